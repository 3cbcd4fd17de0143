-- Written by a program of this session out of the translation (a copy of the kit's print, turned). Not trusted: Lean checks it.
import Derived.Test.YtllaepgbpmiglaaGreatDoorQNumx0
import Derived.Test.YtllaepgbpmiglaaGreatDoorQNumx4
namespace Go.Proofs.YtllaepgbpmiglaaGreatDoor.QNum
open Go.RowKit Go.Proofs.YtllaepgbpmiglaaGreatDoorW.PrintWords Go.Proofs.YtllaepgbpmiglaaGreatDoorW.PrintLast Go.Proofs.YtllaepgbpmiglaaGreatDoorW.PrintMore
attribute [local go_sem] max2_int min2_int max_two min_two max_three min_three max_four min_four   -- for this text's walks alone
set_option linter.unusedVariables false
set_option linter.unusedSimpArgs false

/-! ### strconv_readFloat: function 49 -/
mutual
def strconv_readFloat.j0 : Nat → ByteArray → Int → Int → Bool → Bool → Bool → Int → Bool → Bool → Option (Int × Int × Bool × Bool × Bool × Int × Bool)
  | 0, _, _, _, _, _, _, _, _, _ => none
  | k + 1, x0, x2, x3, x4, x5, x6, x7, x8, x9 => if (wrap64 (x7 + 2)) < (x0.size : Int) then (if 0 ≤ x7 then (if x7 < (x0.size : Int) then (if (bt x0 x7) = 48 then (if 0 ≤ (wrap64 (x7 + 1)) then (if (wrap64 (x7 + 1)) < (x0.size : Int) then ((strconv_lower.f (bt x0 (wrap64 (x7 + 1)))).bind fun t123 => (strconv_readFloat.j1 k x0 x2 x3 x4 x5 x6 x7 x8 x9 10 19 101 (t123 == 120))) else (none)) else (none)) else (strconv_readFloat.j1 k x0 x2 x3 x4 x5 x6 x7 x8 x9 10 19 101 false)) else (none)) else (none)) else (strconv_readFloat.j1 k x0 x2 x3 x4 x5 x6 x7 x8 x9 10 19 101 false)
def strconv_readFloat.j1 : Nat → ByteArray → Int → Int → Bool → Bool → Bool → Int → Bool → Bool → Int → Int → Int → Bool → Option (Int × Int × Bool × Bool × Bool × Int × Bool)
  | 0, _, _, _, _, _, _, _, _, _, _, _, _, _ => none
  | k + 1, x0, x2, x3, x4, x5, x6, x7, x8, x9, x10, x11, x12, x54 => if x54 = true then (strconv_readFloat.j2 k x0 x2 x3 x4 x5 true (wrap64 (x7 + 2)) x8 x9 16 16 112) else (strconv_readFloat.j2 k x0 x2 x3 x4 x5 x6 x7 x8 x9 x10 x11 x12)
def strconv_readFloat.j2 : Nat → ByteArray → Int → Int → Bool → Bool → Bool → Int → Bool → Bool → Int → Int → Int → Option (Int × Int × Bool × Bool × Bool × Int × Bool)
  | 0, _, _, _, _, _, _, _, _, _, _, _, _ => none
  | k + 1, x0, x2, x3, x4, x5, x6, x7, x8, x9, x10, x11, x12 => strconv_readFloat.l0 k x0 x2 x3 x4 x5 x6 x7 x8 x9 x10 x11 x12 false false 0 0 0
def strconv_readFloat.j7 : Nat → ByteArray → Int → Int → Bool → Bool → Bool → Int → Bool → Bool → Int → Int → Bool → Bool → Int → Int → Int → Option (Int × Int × Bool × Bool × Bool × Int × Bool)
  | 0, _, _, _, _, _, _, _, _, _, _, _, _, _, _, _, _ => none
  | k + 1, x0, x2, x3, x4, x5, x6, x7, x8, x9, x10, x12, x13, x14, x15, x16, x17 => if x14 = true then (if x13 = true then (strconv_readFloat.j8 k x0 x2 x3 x4 x5 x6 x7 x8 x9 x10 x12 x16 x17) else (strconv_readFloat.j8 k x0 x2 x3 x4 x5 x6 x7 x8 x9 x10 x12 x16 x15)) else (some (x2, x3, x4, x5, x6, x7, x8))
def strconv_readFloat.j8 : Nat → ByteArray → Int → Int → Bool → Bool → Bool → Int → Bool → Bool → Int → Int → Int → Int → Option (Int × Int × Bool × Bool × Bool × Int × Bool)
  | 0, _, _, _, _, _, _, _, _, _, _, _, _, _ => none
  | k + 1, x0, x2, x3, x4, x5, x6, x7, x8, x9, x10, x12, x16, x17 => if x10 = 16 then (strconv_readFloat.j9 k x0 x2 x3 x4 x5 x6 x7 x8 x9 x10 x12 (wrap64 (x16 * 4)) (wrap64 (x17 * 4))) else (strconv_readFloat.j9 k x0 x2 x3 x4 x5 x6 x7 x8 x9 x10 x12 x16 x17)
def strconv_readFloat.j9 : Nat → ByteArray → Int → Int → Bool → Bool → Bool → Int → Bool → Bool → Int → Int → Int → Int → Option (Int × Int × Bool × Bool × Bool × Int × Bool)
  | 0, _, _, _, _, _, _, _, _, _, _, _, _, _ => none
  | k + 1, x0, x2, x3, x4, x5, x6, x7, x8, x9, x10, x12, x16, x17 => if x7 < (x0.size : Int) then (if 0 ≤ x7 then ((strconv_lower.f (bt x0 x7)).bind fun t126 => (strconv_readFloat.j10 k x0 x2 x3 x4 x5 x6 x7 x8 x9 x10 x16 x17 (t126 == x12))) else (none)) else (strconv_readFloat.j10 k x0 x2 x3 x4 x5 x6 x7 x8 x9 x10 x16 x17 false)
def strconv_readFloat.j10 : Nat → ByteArray → Int → Int → Bool → Bool → Bool → Int → Bool → Bool → Int → Int → Int → Bool → Option (Int × Int × Bool × Bool × Bool × Int × Bool)
  | 0, _, _, _, _, _, _, _, _, _, _, _, _, _ => none
  | k + 1, x0, x2, x3, x4, x5, x6, x7, x8, x9, x10, x16, x17, x161 => if x161 = true then (none) else (if x10 = 16 then (some (x2, x3, x4, x5, x6, x7, x8)) else (if x2 = 0 then (if x9 = true then (if 0 ≤ x7 then (if x7 ≤ (x0.size : Int) then (none) else (none)) else (none)) else (some (x2, x3, x4, x5, x6, x7, true))) else (if x9 = true then (if 0 ≤ x7 then (if x7 ≤ (x0.size : Int) then (none) else (none)) else (none)) else (some (x2, wrap64 (x17 - x16), x4, x5, x6, x7, true)))))
def strconv_readFloat.l0 : Nat → ByteArray → Int → Int → Bool → Bool → Bool → Int → Bool → Bool → Int → Int → Int → Bool → Bool → Int → Int → Int → Option (Int × Int × Bool × Bool × Bool × Int × Bool)
  | 0, _, _, _, _, _, _, _, _, _, _, _, _, _, _, _, _, _ => none
  | k + 1, x0, x2, x3, x4, x5, x6, x7, x8, x9, x10, x11, x12, x13, x14, x15, x16, x17 => if x7 < (x0.size : Int) then (if 0 ≤ x7 then (if (true == ((bt x0 x7) == 95)) = true then (none) else (if (true == ((bt x0 x7) == 46)) = true then (if x13 = true then (strconv_readFloat.j7 k x0 x2 x3 x4 x5 x6 x7 x8 x9 x10 x12 x13 x14 x15 x16 x17) else (strconv_readFloat.l0 k x0 x2 x3 x4 x5 x6 (wrap64 (x7 + 1)) x8 x9 x10 x11 x12 true x14 x15 x16 x15)) else (if 48 ≤ (bt x0 x7) then (strconv_readFloat.j4 k x0 x2 x3 x4 x5 x6 x7 x8 x9 x10 x11 x12 x13 x14 x15 x16 x17 (bt x0 x7) (true == (decide ((bt x0 x7) ≤ 57)))) else (strconv_readFloat.j4 k x0 x2 x3 x4 x5 x6 x7 x8 x9 x10 x11 x12 x13 x14 x15 x16 x17 (bt x0 x7) (true == false))))) else (none)) else (strconv_readFloat.j7 k x0 x2 x3 x4 x5 x6 x7 x8 x9 x10 x12 x13 x14 x15 x16 x17)
def strconv_readFloat.j4 : Nat → ByteArray → Int → Int → Bool → Bool → Bool → Int → Bool → Bool → Int → Int → Int → Bool → Bool → Int → Int → Int → Int → Bool → Option (Int × Int × Bool × Bool × Bool × Int × Bool)
  | 0, _, _, _, _, _, _, _, _, _, _, _, _, _, _, _, _, _, _, _ => none
  | k + 1, x0, x2, x3, x4, x5, x6, x7, x8, x9, x10, x11, x12, x13, x14, x15, x16, x17, x18, x76 => if x76 = true then (if x18 = 48 then (strconv_readFloat.j5 k x0 x2 x3 x4 x5 x6 x7 x8 x9 x10 x11 x12 x13 true x15 x16 x17 x18 (x15 == 0)) else (strconv_readFloat.j5 k x0 x2 x3 x4 x5 x6 x7 x8 x9 x10 x11 x12 x13 true x15 x16 x17 x18 false)) else (if x10 = 16 then ((strconv_lower.f x18).bind fun t124 => (if 97 ≤ t124 then (strconv_readFloat.j6 k x0 x2 x3 x4 x5 x6 x7 x8 x9 x10 x11 x12 x13 x14 x15 x16 x17 x18 (true == (decide (t124 ≤ 102)))) else (strconv_readFloat.j6 k x0 x2 x3 x4 x5 x6 x7 x8 x9 x10 x11 x12 x13 x14 x15 x16 x17 x18 (true == false)))) else (strconv_readFloat.j6 k x0 x2 x3 x4 x5 x6 x7 x8 x9 x10 x11 x12 x13 x14 x15 x16 x17 x18 (true == false)))
def strconv_readFloat.j5 : Nat → ByteArray → Int → Int → Bool → Bool → Bool → Int → Bool → Bool → Int → Int → Int → Bool → Bool → Int → Int → Int → Int → Bool → Option (Int × Int × Bool × Bool × Bool × Int × Bool)
  | 0, _, _, _, _, _, _, _, _, _, _, _, _, _, _, _, _, _, _, _ => none
  | k + 1, x0, x2, x3, x4, x5, x6, x7, x8, x9, x10, x11, x12, x13, x14, x15, x16, x17, x18, x89 => if x89 = true then (strconv_readFloat.l0 k x0 x2 x3 x4 x5 x6 (wrap64 (x7 + 1)) x8 x9 x10 x11 x12 x13 x14 x15 x16 (wrap64 (x17 - 1))) else (if x16 < x11 then (strconv_readFloat.l0 k x0 (IntKind.u64.wrap ((IntKind.u64.wrap (x2 * x10)) + ((x18 - 48) % 256))) x3 x4 x5 x6 (wrap64 (x7 + 1)) x8 x9 x10 x11 x12 x13 x14 (wrap64 (x15 + 1)) (wrap64 (x16 + 1)) x17) else (none))
def strconv_readFloat.j6 : Nat → ByteArray → Int → Int → Bool → Bool → Bool → Int → Bool → Bool → Int → Int → Int → Bool → Bool → Int → Int → Int → Int → Bool → Option (Int × Int × Bool × Bool × Bool × Int × Bool)
  | 0, _, _, _, _, _, _, _, _, _, _, _, _, _, _, _, _, _, _, _ => none
  | k + 1, x0, x2, x3, x4, x5, x6, x7, x8, x9, x10, x11, x12, x13, x14, x15, x16, x17, x18, x109 => if x109 = true then (if x16 < x11 then ((strconv_lower.f x18).bind fun t125 => (strconv_readFloat.l0 k x0 (IntKind.u64.wrap ((IntKind.u64.wrap (x2 * 16)) + ((((t125 - 97) % 256) + 10) % 256))) x3 x4 x5 x6 (wrap64 (x7 + 1)) x8 x9 x10 x11 x12 x13 true (wrap64 (x15 + 1)) (wrap64 (x16 + 1)) x17)) else (none)) else (strconv_readFloat.j7 k x0 x2 x3 x4 x5 x6 x7 x8 x9 x10 x12 x13 x14 x15 x16 x17)
end
def strconv_readFloat.f (k : Nat) (a0 : ByteArray) : Option (Int × Int × Bool × Bool × Bool × Int × Bool) := if 0 ≥ (a0.size : Int) then (some (0, 0, false, false, false, 0, false)) else (if 0 < (a0.size : Int) then (if (bt a0 0) = 43 then (strconv_readFloat.j0 k a0 0 0 false false false (0 + 1) false false) else (if (bt a0 0) = 45 then (strconv_readFloat.j0 k a0 0 0 true false false (0 + 1) false false) else (strconv_readFloat.j0 k a0 0 0 false false false 0 false false))) else (none))
theorem strconv_readFloat.mono_l : ∀ k, (∀ y0 y1 y2 y3 y4 y5 y6 y7 y8, LeO (strconv_readFloat.j0 k y0 y1 y2 y3 y4 y5 y6 y7 y8) (strconv_readFloat.j0 (k + 1) y0 y1 y2 y3 y4 y5 y6 y7 y8)) ∧ (∀ y0 y1 y2 y3 y4 y5 y6 y7 y8 y9 y10 y11 y12, LeO (strconv_readFloat.j1 k y0 y1 y2 y3 y4 y5 y6 y7 y8 y9 y10 y11 y12) (strconv_readFloat.j1 (k + 1) y0 y1 y2 y3 y4 y5 y6 y7 y8 y9 y10 y11 y12)) ∧ (∀ y0 y1 y2 y3 y4 y5 y6 y7 y8 y9 y10 y11, LeO (strconv_readFloat.j2 k y0 y1 y2 y3 y4 y5 y6 y7 y8 y9 y10 y11) (strconv_readFloat.j2 (k + 1) y0 y1 y2 y3 y4 y5 y6 y7 y8 y9 y10 y11)) ∧ (∀ y0 y1 y2 y3 y4 y5 y6 y7 y8 y9 y10 y11 y12 y13 y14 y15, LeO (strconv_readFloat.j7 k y0 y1 y2 y3 y4 y5 y6 y7 y8 y9 y10 y11 y12 y13 y14 y15) (strconv_readFloat.j7 (k + 1) y0 y1 y2 y3 y4 y5 y6 y7 y8 y9 y10 y11 y12 y13 y14 y15)) ∧ (∀ y0 y1 y2 y3 y4 y5 y6 y7 y8 y9 y10 y11 y12, LeO (strconv_readFloat.j8 k y0 y1 y2 y3 y4 y5 y6 y7 y8 y9 y10 y11 y12) (strconv_readFloat.j8 (k + 1) y0 y1 y2 y3 y4 y5 y6 y7 y8 y9 y10 y11 y12)) ∧ (∀ y0 y1 y2 y3 y4 y5 y6 y7 y8 y9 y10 y11 y12, LeO (strconv_readFloat.j9 k y0 y1 y2 y3 y4 y5 y6 y7 y8 y9 y10 y11 y12) (strconv_readFloat.j9 (k + 1) y0 y1 y2 y3 y4 y5 y6 y7 y8 y9 y10 y11 y12)) ∧ (∀ y0 y1 y2 y3 y4 y5 y6 y7 y8 y9 y10 y11 y12, LeO (strconv_readFloat.j10 k y0 y1 y2 y3 y4 y5 y6 y7 y8 y9 y10 y11 y12) (strconv_readFloat.j10 (k + 1) y0 y1 y2 y3 y4 y5 y6 y7 y8 y9 y10 y11 y12)) ∧ (∀ y0 y1 y2 y3 y4 y5 y6 y7 y8 y9 y10 y11 y12 y13 y14 y15 y16, LeO (strconv_readFloat.l0 k y0 y1 y2 y3 y4 y5 y6 y7 y8 y9 y10 y11 y12 y13 y14 y15 y16) (strconv_readFloat.l0 (k + 1) y0 y1 y2 y3 y4 y5 y6 y7 y8 y9 y10 y11 y12 y13 y14 y15 y16)) ∧ (∀ y0 y1 y2 y3 y4 y5 y6 y7 y8 y9 y10 y11 y12 y13 y14 y15 y16 y17 y18, LeO (strconv_readFloat.j4 k y0 y1 y2 y3 y4 y5 y6 y7 y8 y9 y10 y11 y12 y13 y14 y15 y16 y17 y18) (strconv_readFloat.j4 (k + 1) y0 y1 y2 y3 y4 y5 y6 y7 y8 y9 y10 y11 y12 y13 y14 y15 y16 y17 y18)) ∧ (∀ y0 y1 y2 y3 y4 y5 y6 y7 y8 y9 y10 y11 y12 y13 y14 y15 y16 y17 y18, LeO (strconv_readFloat.j5 k y0 y1 y2 y3 y4 y5 y6 y7 y8 y9 y10 y11 y12 y13 y14 y15 y16 y17 y18) (strconv_readFloat.j5 (k + 1) y0 y1 y2 y3 y4 y5 y6 y7 y8 y9 y10 y11 y12 y13 y14 y15 y16 y17 y18)) ∧ (∀ y0 y1 y2 y3 y4 y5 y6 y7 y8 y9 y10 y11 y12 y13 y14 y15 y16 y17 y18, LeO (strconv_readFloat.j6 k y0 y1 y2 y3 y4 y5 y6 y7 y8 y9 y10 y11 y12 y13 y14 y15 y16 y17 y18) (strconv_readFloat.j6 (k + 1) y0 y1 y2 y3 y4 y5 y6 y7 y8 y9 y10 y11 y12 y13 y14 y15 y16 y17 y18))
  | 0 => ⟨fun _ _ _ _ _ _ _ _ _ r h => by simp [strconv_readFloat.j0] at h, fun _ _ _ _ _ _ _ _ _ _ _ _ _ r h => by simp [strconv_readFloat.j1] at h, fun _ _ _ _ _ _ _ _ _ _ _ _ r h => by simp [strconv_readFloat.j2] at h, fun _ _ _ _ _ _ _ _ _ _ _ _ _ _ _ _ r h => by simp [strconv_readFloat.j7] at h, fun _ _ _ _ _ _ _ _ _ _ _ _ _ r h => by simp [strconv_readFloat.j8] at h, fun _ _ _ _ _ _ _ _ _ _ _ _ _ r h => by simp [strconv_readFloat.j9] at h, fun _ _ _ _ _ _ _ _ _ _ _ _ _ r h => by simp [strconv_readFloat.j10] at h, fun _ _ _ _ _ _ _ _ _ _ _ _ _ _ _ _ _ r h => by simp [strconv_readFloat.l0] at h, fun _ _ _ _ _ _ _ _ _ _ _ _ _ _ _ _ _ _ _ r h => by simp [strconv_readFloat.j4] at h, fun _ _ _ _ _ _ _ _ _ _ _ _ _ _ _ _ _ _ _ r h => by simp [strconv_readFloat.j5] at h, fun _ _ _ _ _ _ _ _ _ _ _ _ _ _ _ _ _ _ _ r h => by simp [strconv_readFloat.j6] at h⟩
  | k + 1 => by
    obtain ⟨ih0, ih1, ih2, ih3, ih4, ih5, ih6, ih7, ih8, ih9, ih10⟩ := strconv_readFloat.mono_l k
    refine ⟨?_, ?_, ?_, ?_, ?_, ?_, ?_, ?_, ?_, ?_, ?_⟩
    · intro y0 y1 y2 y3 y4 y5 y6 y7 y8
      unfold strconv_readFloat.j0
      repeat' first
      | (with_reducible exact ih0 _ _ _ _ _ _ _ _ _)
      | (with_reducible exact ih1 _ _ _ _ _ _ _ _ _ _ _ _ _)
      | (with_reducible exact ih2 _ _ _ _ _ _ _ _ _ _ _ _)
      | (with_reducible exact ih3 _ _ _ _ _ _ _ _ _ _ _ _ _ _ _ _)
      | (with_reducible exact ih4 _ _ _ _ _ _ _ _ _ _ _ _ _)
      | (with_reducible exact ih5 _ _ _ _ _ _ _ _ _ _ _ _ _)
      | (with_reducible exact ih6 _ _ _ _ _ _ _ _ _ _ _ _ _)
      | (with_reducible exact ih7 _ _ _ _ _ _ _ _ _ _ _ _ _ _ _ _ _)
      | (with_reducible exact ih8 _ _ _ _ _ _ _ _ _ _ _ _ _ _ _ _ _ _ _)
      | (with_reducible exact ih9 _ _ _ _ _ _ _ _ _ _ _ _ _ _ _ _ _ _ _)
      | (with_reducible exact ih10 _ _ _ _ _ _ _ _ _ _ _ _ _ _ _ _ _ _ _)
      | (with_reducible exact LeO.refl _)
      | (with_reducible exact LeO.none _)
      | (with_reducible refine LeO.ite ?_ ?_)
      | (with_reducible refine LeO.bind ?_ (fun _ => ?_))
      | exact ih0 _ _ _ _ _ _ _ _ _
      | exact ih1 _ _ _ _ _ _ _ _ _ _ _ _ _
      | exact ih2 _ _ _ _ _ _ _ _ _ _ _ _
      | exact ih3 _ _ _ _ _ _ _ _ _ _ _ _ _ _ _ _
      | exact ih4 _ _ _ _ _ _ _ _ _ _ _ _ _
      | exact ih5 _ _ _ _ _ _ _ _ _ _ _ _ _
      | exact ih6 _ _ _ _ _ _ _ _ _ _ _ _ _
      | exact ih7 _ _ _ _ _ _ _ _ _ _ _ _ _ _ _ _ _
      | exact ih8 _ _ _ _ _ _ _ _ _ _ _ _ _ _ _ _ _ _ _
      | exact ih9 _ _ _ _ _ _ _ _ _ _ _ _ _ _ _ _ _ _ _
      | exact ih10 _ _ _ _ _ _ _ _ _ _ _ _ _ _ _ _ _ _ _
      | exact LeO.none _
      | refine LeO.ite ?_ ?_
      | refine LeO.bind ?_ (fun _ => ?_)
    · intro y0 y1 y2 y3 y4 y5 y6 y7 y8 y9 y10 y11 y12
      unfold strconv_readFloat.j1
      repeat' first
      | (with_reducible exact ih0 _ _ _ _ _ _ _ _ _)
      | (with_reducible exact ih1 _ _ _ _ _ _ _ _ _ _ _ _ _)
      | (with_reducible exact ih2 _ _ _ _ _ _ _ _ _ _ _ _)
      | (with_reducible exact ih3 _ _ _ _ _ _ _ _ _ _ _ _ _ _ _ _)
      | (with_reducible exact ih4 _ _ _ _ _ _ _ _ _ _ _ _ _)
      | (with_reducible exact ih5 _ _ _ _ _ _ _ _ _ _ _ _ _)
      | (with_reducible exact ih6 _ _ _ _ _ _ _ _ _ _ _ _ _)
      | (with_reducible exact ih7 _ _ _ _ _ _ _ _ _ _ _ _ _ _ _ _ _)
      | (with_reducible exact ih8 _ _ _ _ _ _ _ _ _ _ _ _ _ _ _ _ _ _ _)
      | (with_reducible exact ih9 _ _ _ _ _ _ _ _ _ _ _ _ _ _ _ _ _ _ _)
      | (with_reducible exact ih10 _ _ _ _ _ _ _ _ _ _ _ _ _ _ _ _ _ _ _)
      | (with_reducible exact LeO.refl _)
      | (with_reducible exact LeO.none _)
      | (with_reducible refine LeO.ite ?_ ?_)
      | (with_reducible refine LeO.bind ?_ (fun _ => ?_))
      | exact ih0 _ _ _ _ _ _ _ _ _
      | exact ih1 _ _ _ _ _ _ _ _ _ _ _ _ _
      | exact ih2 _ _ _ _ _ _ _ _ _ _ _ _
      | exact ih3 _ _ _ _ _ _ _ _ _ _ _ _ _ _ _ _
      | exact ih4 _ _ _ _ _ _ _ _ _ _ _ _ _
      | exact ih5 _ _ _ _ _ _ _ _ _ _ _ _ _
      | exact ih6 _ _ _ _ _ _ _ _ _ _ _ _ _
      | exact ih7 _ _ _ _ _ _ _ _ _ _ _ _ _ _ _ _ _
      | exact ih8 _ _ _ _ _ _ _ _ _ _ _ _ _ _ _ _ _ _ _
      | exact ih9 _ _ _ _ _ _ _ _ _ _ _ _ _ _ _ _ _ _ _
      | exact ih10 _ _ _ _ _ _ _ _ _ _ _ _ _ _ _ _ _ _ _
      | exact LeO.none _
      | refine LeO.ite ?_ ?_
      | refine LeO.bind ?_ (fun _ => ?_)
    · intro y0 y1 y2 y3 y4 y5 y6 y7 y8 y9 y10 y11
      unfold strconv_readFloat.j2
      repeat' first
      | (with_reducible exact ih0 _ _ _ _ _ _ _ _ _)
      | (with_reducible exact ih1 _ _ _ _ _ _ _ _ _ _ _ _ _)
      | (with_reducible exact ih2 _ _ _ _ _ _ _ _ _ _ _ _)
      | (with_reducible exact ih3 _ _ _ _ _ _ _ _ _ _ _ _ _ _ _ _)
      | (with_reducible exact ih4 _ _ _ _ _ _ _ _ _ _ _ _ _)
      | (with_reducible exact ih5 _ _ _ _ _ _ _ _ _ _ _ _ _)
      | (with_reducible exact ih6 _ _ _ _ _ _ _ _ _ _ _ _ _)
      | (with_reducible exact ih7 _ _ _ _ _ _ _ _ _ _ _ _ _ _ _ _ _)
      | (with_reducible exact ih8 _ _ _ _ _ _ _ _ _ _ _ _ _ _ _ _ _ _ _)
      | (with_reducible exact ih9 _ _ _ _ _ _ _ _ _ _ _ _ _ _ _ _ _ _ _)
      | (with_reducible exact ih10 _ _ _ _ _ _ _ _ _ _ _ _ _ _ _ _ _ _ _)
      | (with_reducible exact LeO.refl _)
      | (with_reducible exact LeO.none _)
      | (with_reducible refine LeO.ite ?_ ?_)
      | (with_reducible refine LeO.bind ?_ (fun _ => ?_))
      | exact ih0 _ _ _ _ _ _ _ _ _
      | exact ih1 _ _ _ _ _ _ _ _ _ _ _ _ _
      | exact ih2 _ _ _ _ _ _ _ _ _ _ _ _
      | exact ih3 _ _ _ _ _ _ _ _ _ _ _ _ _ _ _ _
      | exact ih4 _ _ _ _ _ _ _ _ _ _ _ _ _
      | exact ih5 _ _ _ _ _ _ _ _ _ _ _ _ _
      | exact ih6 _ _ _ _ _ _ _ _ _ _ _ _ _
      | exact ih7 _ _ _ _ _ _ _ _ _ _ _ _ _ _ _ _ _
      | exact ih8 _ _ _ _ _ _ _ _ _ _ _ _ _ _ _ _ _ _ _
      | exact ih9 _ _ _ _ _ _ _ _ _ _ _ _ _ _ _ _ _ _ _
      | exact ih10 _ _ _ _ _ _ _ _ _ _ _ _ _ _ _ _ _ _ _
      | exact LeO.none _
      | refine LeO.ite ?_ ?_
      | refine LeO.bind ?_ (fun _ => ?_)
    · intro y0 y1 y2 y3 y4 y5 y6 y7 y8 y9 y10 y11 y12 y13 y14 y15
      unfold strconv_readFloat.j7
      repeat' first
      | (with_reducible exact ih0 _ _ _ _ _ _ _ _ _)
      | (with_reducible exact ih1 _ _ _ _ _ _ _ _ _ _ _ _ _)
      | (with_reducible exact ih2 _ _ _ _ _ _ _ _ _ _ _ _)
      | (with_reducible exact ih3 _ _ _ _ _ _ _ _ _ _ _ _ _ _ _ _)
      | (with_reducible exact ih4 _ _ _ _ _ _ _ _ _ _ _ _ _)
      | (with_reducible exact ih5 _ _ _ _ _ _ _ _ _ _ _ _ _)
      | (with_reducible exact ih6 _ _ _ _ _ _ _ _ _ _ _ _ _)
      | (with_reducible exact ih7 _ _ _ _ _ _ _ _ _ _ _ _ _ _ _ _ _)
      | (with_reducible exact ih8 _ _ _ _ _ _ _ _ _ _ _ _ _ _ _ _ _ _ _)
      | (with_reducible exact ih9 _ _ _ _ _ _ _ _ _ _ _ _ _ _ _ _ _ _ _)
      | (with_reducible exact ih10 _ _ _ _ _ _ _ _ _ _ _ _ _ _ _ _ _ _ _)
      | (with_reducible exact LeO.refl _)
      | (with_reducible exact LeO.none _)
      | (with_reducible refine LeO.ite ?_ ?_)
      | (with_reducible refine LeO.bind ?_ (fun _ => ?_))
      | exact ih0 _ _ _ _ _ _ _ _ _
      | exact ih1 _ _ _ _ _ _ _ _ _ _ _ _ _
      | exact ih2 _ _ _ _ _ _ _ _ _ _ _ _
      | exact ih3 _ _ _ _ _ _ _ _ _ _ _ _ _ _ _ _
      | exact ih4 _ _ _ _ _ _ _ _ _ _ _ _ _
      | exact ih5 _ _ _ _ _ _ _ _ _ _ _ _ _
      | exact ih6 _ _ _ _ _ _ _ _ _ _ _ _ _
      | exact ih7 _ _ _ _ _ _ _ _ _ _ _ _ _ _ _ _ _
      | exact ih8 _ _ _ _ _ _ _ _ _ _ _ _ _ _ _ _ _ _ _
      | exact ih9 _ _ _ _ _ _ _ _ _ _ _ _ _ _ _ _ _ _ _
      | exact ih10 _ _ _ _ _ _ _ _ _ _ _ _ _ _ _ _ _ _ _
      | exact LeO.none _
      | refine LeO.ite ?_ ?_
      | refine LeO.bind ?_ (fun _ => ?_)
    · intro y0 y1 y2 y3 y4 y5 y6 y7 y8 y9 y10 y11 y12
      unfold strconv_readFloat.j8
      repeat' first
      | (with_reducible exact ih0 _ _ _ _ _ _ _ _ _)
      | (with_reducible exact ih1 _ _ _ _ _ _ _ _ _ _ _ _ _)
      | (with_reducible exact ih2 _ _ _ _ _ _ _ _ _ _ _ _)
      | (with_reducible exact ih3 _ _ _ _ _ _ _ _ _ _ _ _ _ _ _ _)
      | (with_reducible exact ih4 _ _ _ _ _ _ _ _ _ _ _ _ _)
      | (with_reducible exact ih5 _ _ _ _ _ _ _ _ _ _ _ _ _)
      | (with_reducible exact ih6 _ _ _ _ _ _ _ _ _ _ _ _ _)
      | (with_reducible exact ih7 _ _ _ _ _ _ _ _ _ _ _ _ _ _ _ _ _)
      | (with_reducible exact ih8 _ _ _ _ _ _ _ _ _ _ _ _ _ _ _ _ _ _ _)
      | (with_reducible exact ih9 _ _ _ _ _ _ _ _ _ _ _ _ _ _ _ _ _ _ _)
      | (with_reducible exact ih10 _ _ _ _ _ _ _ _ _ _ _ _ _ _ _ _ _ _ _)
      | (with_reducible exact LeO.refl _)
      | (with_reducible exact LeO.none _)
      | (with_reducible refine LeO.ite ?_ ?_)
      | (with_reducible refine LeO.bind ?_ (fun _ => ?_))
      | exact ih0 _ _ _ _ _ _ _ _ _
      | exact ih1 _ _ _ _ _ _ _ _ _ _ _ _ _
      | exact ih2 _ _ _ _ _ _ _ _ _ _ _ _
      | exact ih3 _ _ _ _ _ _ _ _ _ _ _ _ _ _ _ _
      | exact ih4 _ _ _ _ _ _ _ _ _ _ _ _ _
      | exact ih5 _ _ _ _ _ _ _ _ _ _ _ _ _
      | exact ih6 _ _ _ _ _ _ _ _ _ _ _ _ _
      | exact ih7 _ _ _ _ _ _ _ _ _ _ _ _ _ _ _ _ _
      | exact ih8 _ _ _ _ _ _ _ _ _ _ _ _ _ _ _ _ _ _ _
      | exact ih9 _ _ _ _ _ _ _ _ _ _ _ _ _ _ _ _ _ _ _
      | exact ih10 _ _ _ _ _ _ _ _ _ _ _ _ _ _ _ _ _ _ _
      | exact LeO.none _
      | refine LeO.ite ?_ ?_
      | refine LeO.bind ?_ (fun _ => ?_)
    · intro y0 y1 y2 y3 y4 y5 y6 y7 y8 y9 y10 y11 y12
      unfold strconv_readFloat.j9
      repeat' first
      | (with_reducible exact ih0 _ _ _ _ _ _ _ _ _)
      | (with_reducible exact ih1 _ _ _ _ _ _ _ _ _ _ _ _ _)
      | (with_reducible exact ih2 _ _ _ _ _ _ _ _ _ _ _ _)
      | (with_reducible exact ih3 _ _ _ _ _ _ _ _ _ _ _ _ _ _ _ _)
      | (with_reducible exact ih4 _ _ _ _ _ _ _ _ _ _ _ _ _)
      | (with_reducible exact ih5 _ _ _ _ _ _ _ _ _ _ _ _ _)
      | (with_reducible exact ih6 _ _ _ _ _ _ _ _ _ _ _ _ _)
      | (with_reducible exact ih7 _ _ _ _ _ _ _ _ _ _ _ _ _ _ _ _ _)
      | (with_reducible exact ih8 _ _ _ _ _ _ _ _ _ _ _ _ _ _ _ _ _ _ _)
      | (with_reducible exact ih9 _ _ _ _ _ _ _ _ _ _ _ _ _ _ _ _ _ _ _)
      | (with_reducible exact ih10 _ _ _ _ _ _ _ _ _ _ _ _ _ _ _ _ _ _ _)
      | (with_reducible exact LeO.refl _)
      | (with_reducible exact LeO.none _)
      | (with_reducible refine LeO.ite ?_ ?_)
      | (with_reducible refine LeO.bind ?_ (fun _ => ?_))
      | exact ih0 _ _ _ _ _ _ _ _ _
      | exact ih1 _ _ _ _ _ _ _ _ _ _ _ _ _
      | exact ih2 _ _ _ _ _ _ _ _ _ _ _ _
      | exact ih3 _ _ _ _ _ _ _ _ _ _ _ _ _ _ _ _
      | exact ih4 _ _ _ _ _ _ _ _ _ _ _ _ _
      | exact ih5 _ _ _ _ _ _ _ _ _ _ _ _ _
      | exact ih6 _ _ _ _ _ _ _ _ _ _ _ _ _
      | exact ih7 _ _ _ _ _ _ _ _ _ _ _ _ _ _ _ _ _
      | exact ih8 _ _ _ _ _ _ _ _ _ _ _ _ _ _ _ _ _ _ _
      | exact ih9 _ _ _ _ _ _ _ _ _ _ _ _ _ _ _ _ _ _ _
      | exact ih10 _ _ _ _ _ _ _ _ _ _ _ _ _ _ _ _ _ _ _
      | exact LeO.none _
      | refine LeO.ite ?_ ?_
      | refine LeO.bind ?_ (fun _ => ?_)
    · intro y0 y1 y2 y3 y4 y5 y6 y7 y8 y9 y10 y11 y12
      unfold strconv_readFloat.j10
      repeat' first
      | (with_reducible exact ih0 _ _ _ _ _ _ _ _ _)
      | (with_reducible exact ih1 _ _ _ _ _ _ _ _ _ _ _ _ _)
      | (with_reducible exact ih2 _ _ _ _ _ _ _ _ _ _ _ _)
      | (with_reducible exact ih3 _ _ _ _ _ _ _ _ _ _ _ _ _ _ _ _)
      | (with_reducible exact ih4 _ _ _ _ _ _ _ _ _ _ _ _ _)
      | (with_reducible exact ih5 _ _ _ _ _ _ _ _ _ _ _ _ _)
      | (with_reducible exact ih6 _ _ _ _ _ _ _ _ _ _ _ _ _)
      | (with_reducible exact ih7 _ _ _ _ _ _ _ _ _ _ _ _ _ _ _ _ _)
      | (with_reducible exact ih8 _ _ _ _ _ _ _ _ _ _ _ _ _ _ _ _ _ _ _)
      | (with_reducible exact ih9 _ _ _ _ _ _ _ _ _ _ _ _ _ _ _ _ _ _ _)
      | (with_reducible exact ih10 _ _ _ _ _ _ _ _ _ _ _ _ _ _ _ _ _ _ _)
      | (with_reducible exact LeO.refl _)
      | (with_reducible exact LeO.none _)
      | (with_reducible refine LeO.ite ?_ ?_)
      | (with_reducible refine LeO.bind ?_ (fun _ => ?_))
      | exact ih0 _ _ _ _ _ _ _ _ _
      | exact ih1 _ _ _ _ _ _ _ _ _ _ _ _ _
      | exact ih2 _ _ _ _ _ _ _ _ _ _ _ _
      | exact ih3 _ _ _ _ _ _ _ _ _ _ _ _ _ _ _ _
      | exact ih4 _ _ _ _ _ _ _ _ _ _ _ _ _
      | exact ih5 _ _ _ _ _ _ _ _ _ _ _ _ _
      | exact ih6 _ _ _ _ _ _ _ _ _ _ _ _ _
      | exact ih7 _ _ _ _ _ _ _ _ _ _ _ _ _ _ _ _ _
      | exact ih8 _ _ _ _ _ _ _ _ _ _ _ _ _ _ _ _ _ _ _
      | exact ih9 _ _ _ _ _ _ _ _ _ _ _ _ _ _ _ _ _ _ _
      | exact ih10 _ _ _ _ _ _ _ _ _ _ _ _ _ _ _ _ _ _ _
      | exact LeO.none _
      | refine LeO.ite ?_ ?_
      | refine LeO.bind ?_ (fun _ => ?_)
    · intro y0 y1 y2 y3 y4 y5 y6 y7 y8 y9 y10 y11 y12 y13 y14 y15 y16
      unfold strconv_readFloat.l0
      repeat' first
      | (with_reducible exact ih0 _ _ _ _ _ _ _ _ _)
      | (with_reducible exact ih1 _ _ _ _ _ _ _ _ _ _ _ _ _)
      | (with_reducible exact ih2 _ _ _ _ _ _ _ _ _ _ _ _)
      | (with_reducible exact ih3 _ _ _ _ _ _ _ _ _ _ _ _ _ _ _ _)
      | (with_reducible exact ih4 _ _ _ _ _ _ _ _ _ _ _ _ _)
      | (with_reducible exact ih5 _ _ _ _ _ _ _ _ _ _ _ _ _)
      | (with_reducible exact ih6 _ _ _ _ _ _ _ _ _ _ _ _ _)
      | (with_reducible exact ih7 _ _ _ _ _ _ _ _ _ _ _ _ _ _ _ _ _)
      | (with_reducible exact ih8 _ _ _ _ _ _ _ _ _ _ _ _ _ _ _ _ _ _ _)
      | (with_reducible exact ih9 _ _ _ _ _ _ _ _ _ _ _ _ _ _ _ _ _ _ _)
      | (with_reducible exact ih10 _ _ _ _ _ _ _ _ _ _ _ _ _ _ _ _ _ _ _)
      | (with_reducible exact LeO.refl _)
      | (with_reducible exact LeO.none _)
      | (with_reducible refine LeO.ite ?_ ?_)
      | (with_reducible refine LeO.bind ?_ (fun _ => ?_))
      | exact ih0 _ _ _ _ _ _ _ _ _
      | exact ih1 _ _ _ _ _ _ _ _ _ _ _ _ _
      | exact ih2 _ _ _ _ _ _ _ _ _ _ _ _
      | exact ih3 _ _ _ _ _ _ _ _ _ _ _ _ _ _ _ _
      | exact ih4 _ _ _ _ _ _ _ _ _ _ _ _ _
      | exact ih5 _ _ _ _ _ _ _ _ _ _ _ _ _
      | exact ih6 _ _ _ _ _ _ _ _ _ _ _ _ _
      | exact ih7 _ _ _ _ _ _ _ _ _ _ _ _ _ _ _ _ _
      | exact ih8 _ _ _ _ _ _ _ _ _ _ _ _ _ _ _ _ _ _ _
      | exact ih9 _ _ _ _ _ _ _ _ _ _ _ _ _ _ _ _ _ _ _
      | exact ih10 _ _ _ _ _ _ _ _ _ _ _ _ _ _ _ _ _ _ _
      | exact LeO.none _
      | refine LeO.ite ?_ ?_
      | refine LeO.bind ?_ (fun _ => ?_)
    · intro y0 y1 y2 y3 y4 y5 y6 y7 y8 y9 y10 y11 y12 y13 y14 y15 y16 y17 y18
      unfold strconv_readFloat.j4
      repeat' first
      | (with_reducible exact ih0 _ _ _ _ _ _ _ _ _)
      | (with_reducible exact ih1 _ _ _ _ _ _ _ _ _ _ _ _ _)
      | (with_reducible exact ih2 _ _ _ _ _ _ _ _ _ _ _ _)
      | (with_reducible exact ih3 _ _ _ _ _ _ _ _ _ _ _ _ _ _ _ _)
      | (with_reducible exact ih4 _ _ _ _ _ _ _ _ _ _ _ _ _)
      | (with_reducible exact ih5 _ _ _ _ _ _ _ _ _ _ _ _ _)
      | (with_reducible exact ih6 _ _ _ _ _ _ _ _ _ _ _ _ _)
      | (with_reducible exact ih7 _ _ _ _ _ _ _ _ _ _ _ _ _ _ _ _ _)
      | (with_reducible exact ih8 _ _ _ _ _ _ _ _ _ _ _ _ _ _ _ _ _ _ _)
      | (with_reducible exact ih9 _ _ _ _ _ _ _ _ _ _ _ _ _ _ _ _ _ _ _)
      | (with_reducible exact ih10 _ _ _ _ _ _ _ _ _ _ _ _ _ _ _ _ _ _ _)
      | (with_reducible exact LeO.refl _)
      | (with_reducible exact LeO.none _)
      | (with_reducible refine LeO.ite ?_ ?_)
      | (with_reducible refine LeO.bind ?_ (fun _ => ?_))
      | exact ih0 _ _ _ _ _ _ _ _ _
      | exact ih1 _ _ _ _ _ _ _ _ _ _ _ _ _
      | exact ih2 _ _ _ _ _ _ _ _ _ _ _ _
      | exact ih3 _ _ _ _ _ _ _ _ _ _ _ _ _ _ _ _
      | exact ih4 _ _ _ _ _ _ _ _ _ _ _ _ _
      | exact ih5 _ _ _ _ _ _ _ _ _ _ _ _ _
      | exact ih6 _ _ _ _ _ _ _ _ _ _ _ _ _
      | exact ih7 _ _ _ _ _ _ _ _ _ _ _ _ _ _ _ _ _
      | exact ih8 _ _ _ _ _ _ _ _ _ _ _ _ _ _ _ _ _ _ _
      | exact ih9 _ _ _ _ _ _ _ _ _ _ _ _ _ _ _ _ _ _ _
      | exact ih10 _ _ _ _ _ _ _ _ _ _ _ _ _ _ _ _ _ _ _
      | exact LeO.none _
      | refine LeO.ite ?_ ?_
      | refine LeO.bind ?_ (fun _ => ?_)
    · intro y0 y1 y2 y3 y4 y5 y6 y7 y8 y9 y10 y11 y12 y13 y14 y15 y16 y17 y18
      unfold strconv_readFloat.j5
      repeat' first
      | (with_reducible exact ih0 _ _ _ _ _ _ _ _ _)
      | (with_reducible exact ih1 _ _ _ _ _ _ _ _ _ _ _ _ _)
      | (with_reducible exact ih2 _ _ _ _ _ _ _ _ _ _ _ _)
      | (with_reducible exact ih3 _ _ _ _ _ _ _ _ _ _ _ _ _ _ _ _)
      | (with_reducible exact ih4 _ _ _ _ _ _ _ _ _ _ _ _ _)
      | (with_reducible exact ih5 _ _ _ _ _ _ _ _ _ _ _ _ _)
      | (with_reducible exact ih6 _ _ _ _ _ _ _ _ _ _ _ _ _)
      | (with_reducible exact ih7 _ _ _ _ _ _ _ _ _ _ _ _ _ _ _ _ _)
      | (with_reducible exact ih8 _ _ _ _ _ _ _ _ _ _ _ _ _ _ _ _ _ _ _)
      | (with_reducible exact ih9 _ _ _ _ _ _ _ _ _ _ _ _ _ _ _ _ _ _ _)
      | (with_reducible exact ih10 _ _ _ _ _ _ _ _ _ _ _ _ _ _ _ _ _ _ _)
      | (with_reducible exact LeO.refl _)
      | (with_reducible exact LeO.none _)
      | (with_reducible refine LeO.ite ?_ ?_)
      | (with_reducible refine LeO.bind ?_ (fun _ => ?_))
      | exact ih0 _ _ _ _ _ _ _ _ _
      | exact ih1 _ _ _ _ _ _ _ _ _ _ _ _ _
      | exact ih2 _ _ _ _ _ _ _ _ _ _ _ _
      | exact ih3 _ _ _ _ _ _ _ _ _ _ _ _ _ _ _ _
      | exact ih4 _ _ _ _ _ _ _ _ _ _ _ _ _
      | exact ih5 _ _ _ _ _ _ _ _ _ _ _ _ _
      | exact ih6 _ _ _ _ _ _ _ _ _ _ _ _ _
      | exact ih7 _ _ _ _ _ _ _ _ _ _ _ _ _ _ _ _ _
      | exact ih8 _ _ _ _ _ _ _ _ _ _ _ _ _ _ _ _ _ _ _
      | exact ih9 _ _ _ _ _ _ _ _ _ _ _ _ _ _ _ _ _ _ _
      | exact ih10 _ _ _ _ _ _ _ _ _ _ _ _ _ _ _ _ _ _ _
      | exact LeO.none _
      | refine LeO.ite ?_ ?_
      | refine LeO.bind ?_ (fun _ => ?_)
    · intro y0 y1 y2 y3 y4 y5 y6 y7 y8 y9 y10 y11 y12 y13 y14 y15 y16 y17 y18
      unfold strconv_readFloat.j6
      repeat' first
      | (with_reducible exact ih0 _ _ _ _ _ _ _ _ _)
      | (with_reducible exact ih1 _ _ _ _ _ _ _ _ _ _ _ _ _)
      | (with_reducible exact ih2 _ _ _ _ _ _ _ _ _ _ _ _)
      | (with_reducible exact ih3 _ _ _ _ _ _ _ _ _ _ _ _ _ _ _ _)
      | (with_reducible exact ih4 _ _ _ _ _ _ _ _ _ _ _ _ _)
      | (with_reducible exact ih5 _ _ _ _ _ _ _ _ _ _ _ _ _)
      | (with_reducible exact ih6 _ _ _ _ _ _ _ _ _ _ _ _ _)
      | (with_reducible exact ih7 _ _ _ _ _ _ _ _ _ _ _ _ _ _ _ _ _)
      | (with_reducible exact ih8 _ _ _ _ _ _ _ _ _ _ _ _ _ _ _ _ _ _ _)
      | (with_reducible exact ih9 _ _ _ _ _ _ _ _ _ _ _ _ _ _ _ _ _ _ _)
      | (with_reducible exact ih10 _ _ _ _ _ _ _ _ _ _ _ _ _ _ _ _ _ _ _)
      | (with_reducible exact LeO.refl _)
      | (with_reducible exact LeO.none _)
      | (with_reducible refine LeO.ite ?_ ?_)
      | (with_reducible refine LeO.bind ?_ (fun _ => ?_))
      | exact ih0 _ _ _ _ _ _ _ _ _
      | exact ih1 _ _ _ _ _ _ _ _ _ _ _ _ _
      | exact ih2 _ _ _ _ _ _ _ _ _ _ _ _
      | exact ih3 _ _ _ _ _ _ _ _ _ _ _ _ _ _ _ _
      | exact ih4 _ _ _ _ _ _ _ _ _ _ _ _ _
      | exact ih5 _ _ _ _ _ _ _ _ _ _ _ _ _
      | exact ih6 _ _ _ _ _ _ _ _ _ _ _ _ _
      | exact ih7 _ _ _ _ _ _ _ _ _ _ _ _ _ _ _ _ _
      | exact ih8 _ _ _ _ _ _ _ _ _ _ _ _ _ _ _ _ _ _ _
      | exact ih9 _ _ _ _ _ _ _ _ _ _ _ _ _ _ _ _ _ _ _
      | exact ih10 _ _ _ _ _ _ _ _ _ _ _ _ _ _ _ _ _ _ _
      | exact LeO.none _
      | refine LeO.ite ?_ ?_
      | refine LeO.bind ?_ (fun _ => ?_)
theorem strconv_readFloat.mono : ∀ a0 k, LeO (strconv_readFloat.f k a0) (strconv_readFloat.f (k + 1) a0) := by
  intro a0 k
  obtain ⟨ih0, ih1, ih2, ih3, ih4, ih5, ih6, ih7, ih8, ih9, ih10⟩ := strconv_readFloat.mono_l k
  unfold strconv_readFloat.f
  repeat' first
      | (with_reducible exact ih0 _ _ _ _ _ _ _ _ _)
      | (with_reducible exact ih1 _ _ _ _ _ _ _ _ _ _ _ _ _)
      | (with_reducible exact ih2 _ _ _ _ _ _ _ _ _ _ _ _)
      | (with_reducible exact ih3 _ _ _ _ _ _ _ _ _ _ _ _ _ _ _ _)
      | (with_reducible exact ih4 _ _ _ _ _ _ _ _ _ _ _ _ _)
      | (with_reducible exact ih5 _ _ _ _ _ _ _ _ _ _ _ _ _)
      | (with_reducible exact ih6 _ _ _ _ _ _ _ _ _ _ _ _ _)
      | (with_reducible exact ih7 _ _ _ _ _ _ _ _ _ _ _ _ _ _ _ _ _)
      | (with_reducible exact ih8 _ _ _ _ _ _ _ _ _ _ _ _ _ _ _ _ _ _ _)
      | (with_reducible exact ih9 _ _ _ _ _ _ _ _ _ _ _ _ _ _ _ _ _ _ _)
      | (with_reducible exact ih10 _ _ _ _ _ _ _ _ _ _ _ _ _ _ _ _ _ _ _)
      | (with_reducible exact LeO.refl _)
      | (with_reducible exact LeO.none _)
      | (with_reducible refine LeO.ite ?_ ?_)
      | (with_reducible refine LeO.bind ?_ (fun _ => ?_))
      | exact ih0 _ _ _ _ _ _ _ _ _
      | exact ih1 _ _ _ _ _ _ _ _ _ _ _ _ _
      | exact ih2 _ _ _ _ _ _ _ _ _ _ _ _
      | exact ih3 _ _ _ _ _ _ _ _ _ _ _ _ _ _ _ _
      | exact ih4 _ _ _ _ _ _ _ _ _ _ _ _ _
      | exact ih5 _ _ _ _ _ _ _ _ _ _ _ _ _
      | exact ih6 _ _ _ _ _ _ _ _ _ _ _ _ _
      | exact ih7 _ _ _ _ _ _ _ _ _ _ _ _ _ _ _ _ _
      | exact ih8 _ _ _ _ _ _ _ _ _ _ _ _ _ _ _ _ _ _ _
      | exact ih9 _ _ _ _ _ _ _ _ _ _ _ _ _ _ _ _ _ _ _
      | exact ih10 _ _ _ _ _ _ _ _ _ _ _ _ _ _ _ _ _ _ _
      | exact LeO.none _
      | refine LeO.ite ?_ ?_
      | refine LeO.bind ?_ (fun _ => ?_)
set_option maxHeartbeats 8000000 in
set_option maxRecDepth 100000 in
theorem strconv_readFloat.calls (k : Nat) (a0 : ByteArray) (r1 : Int) (r2 : Int) (r3 : Bool) (r4 : Bool) (r5 : Bool) (r6 : Int) (r7 : Bool) (w : World) (h : strconv_readFloat.f k a0 = some (r1, r2, r3, r4, r5, r6, r7)) :
    Calls Tryz.prog 49 #[.string a0] w fun e w' => e = .returned (.tuple #[.int .u64 r1, .int .i64 r2, .bool r3, .bool r4, .bool r5, .int .i64 r6, .bool r7]) ∧ Drawn0 w w' := by
  have H : (if 0 ≥ (a0.size : Int) then (some (0, 0, false, false, false, 0, false)) else (if 0 < (a0.size : Int) then (if (bt a0 0) = 43 then (strconv_readFloat.j0 k a0 0 0 false false false (0 + 1) false false) else (if (bt a0 0) = 45 then (strconv_readFloat.j0 k a0 0 0 true false false (0 + 1) false false) else (strconv_readFloat.j0 k a0 0 0 false false false 0 false false))) else (none))) = some (r1, r2, r3, r4, r5, r6, r7) := h
  clear h
  by_cases c2 : 0 ≥ (a0.size : Int)
  · rw [if_pos c2] at H
    have c2em := empty_yes c2
    have c2b0 : decide ((a0.size : Int) ≤ 0) = true := decide_eq_true c2
    have c2b1 : decide (a0.size ≤ 0) = true := decide_eq_true (by omega)
    clear c2
    as_aux_lemma =>
      simp only [Option.some.injEq, Prod.mk.injEq] at H
      obtain ⟨rfl, rfl, rfl, rfl, rfl, rfl, rfl⟩ := H
      go_enter Tryz.func49, Tryz.ntmps49
      go_wp2
      go_step3
      go_wp2
      (try rw [Exit.noGoto_ret])
      refine bodyPost_ret (results_list (rs := [.tmp 2, .tmp 3, .tmp 4, .tmp 5, .tmp 6, .tmp 7, .tmp 8]) rfl (by simp) (.tmp (.tmp (.tmp (.tmp (.tmp (.tmp (.tmp .nil)))))))) rfl ?_
      exact ⟨by first | rfl | (simp; done) | (simp [*]; done), by repeat (first | exact Drawn0.refl _ | apply Drawn0.step)⟩
  · rw [if_neg c2] at H
    have c2em := empty_no c2
    have c2b0 : decide ((a0.size : Int) ≤ 0) = false := decide_eq_false c2
    have c2b1 : decide (a0.size ≤ 0) = false := decide_eq_false (by omega)
    clear c2
    by_cases c3 : 0 < (a0.size : Int)
    · rw [if_pos c3] at H
      have c3b0 : decide (0 < (a0.size : Int)) = true := decide_eq_true c3
      have c3b1 : decide (0 < a0.size) = true := decide_eq_true (by omega)
      clear c3
      have HC5 := Aside0.mk H
      clear H
      have p4 : 0 ≤ (0 : Int) := (by omega)
      have q4 : 0 < a0.size := (by have : (0 : Int) < (a0.size : Int) := of_decide_eq_true (by first | (with_reducible assumption) | assumption); omega)
      have hx4 : ∀ h : 0 < a0.size, ((a0[0]'h).toNat : Int) = bt a0 0 := bt_at a0 0
      clear p4
      have qi4 : (0 < (a0.size : Int)) = True := eq_true (of_decide_eq_true (by first | (with_reducible assumption) | assumption))
      replace q4 := eq_true q4
      go_enter Tryz.func49, Tryz.ntmps49
      go_wp2
      go_step3
      go_upto_block 0 with (fail)
      (try (go_step3; (try (go_upto_block 0 with (fail)))))
      go_cut [4, 7] (fun v4 v7 wc => ∃ (kq : Nat) (x4_4 : Bool) (x7_4 : Int), v4 = .bool x4_4 ∧ v7 = .int .i64 x7_4 ∧ Aside0 (strconv_readFloat.j0 kq a0 0 0 x4_4 false false x7_4 false false = some (r1, r2, r3, r4, r5, r6, r7)) ∧ Aside0 (kq ≤ k) ∧ Drawn0 w wc)
      case first =>
        have H := HC5.out
        clear HC5
        by_cases c6 : (bt a0 0) = 43
        · rw [if_pos c6] at H
          have c6b0 : ((bt a0 0) == 43) = true := beq_iff_eq.mpr c6
          have c6b1 : ((bt a0 0) != 43) = false := bne_eq_false_iff_eq.mpr c6
          clear c6
          (first | rw [c6b0] | (simp only [i64_w, i32_w]; rw [c6b0]) | skip)
          as_aux_lemma =>
            have H' := Aside0.mk H
            clear H
            go_wp2
            go_meet
            case rel => exact ⟨_, (false), (0 + 1), (by first | rfl | (simp; done) | (simp [*]; done)), (by first | rfl | (simp; done) | (simp [*]; done)), H', ⟨by first | omega | exact Nat.le_refl _⟩, by repeat (first | exact Drawn0.refl _ | apply Drawn0.step)⟩
        · rw [if_neg c6] at H
          have c6b0 : ((bt a0 0) == 43) = false := beq_eq_false_iff_ne.mpr c6
          have c6b1 : ((bt a0 0) != 43) = true := bne_iff_ne.mpr c6
          (first | rw [c6b0] | (simp only [i64_w, i32_w]; rw [c6b0]) | skip)
          by_cases c7 : (bt a0 0) = 45
          · rw [if_pos c7] at H
            have c7b0 : ((bt a0 0) == 45) = true := beq_iff_eq.mpr c7
            have c7b1 : ((bt a0 0) != 45) = false := bne_eq_false_iff_eq.mpr c7
            clear c7
            as_aux_lemma =>
              have H' := Aside0.mk H
              clear H
              go_wp2
              go_meet
              case rel => exact ⟨_, (true), (0 + 1), (by first | rfl | (simp; done) | (simp [*]; done)), (by first | rfl | (simp; done) | (simp [*]; done)), H', ⟨by first | omega | exact Nat.le_refl _⟩, by repeat (first | exact Drawn0.refl _ | apply Drawn0.step)⟩
          · rw [if_neg c7] at H
            have c7b0 : ((bt a0 0) == 45) = false := beq_eq_false_iff_ne.mpr c7
            have c7b1 : ((bt a0 0) != 45) = true := bne_iff_ne.mpr c7
            as_aux_lemma =>
              have H' := Aside0.mk H
              clear H
              go_wp2
              go_meet
              case rel => exact ⟨_, (false), (0), (by first | rfl | (simp; done) | (simp [*]; done)), (by first | rfl | (simp; done) | (simp [*]; done)), H', ⟨by first | omega | exact Nat.le_refl _⟩, by repeat (first | exact Drawn0.refl _ | apply Drawn0.step)⟩
      case rest =>
        clear HC5
        try clear c2
        try clear c2b0
        try clear c2b1
        try clear p2
        try clear c3
        try clear c3b0
        try clear c3b1
        try clear p3
        try clear c4
        try clear p4
        try clear q4
        try clear hx4
        try clear qi4
        try clear c6
        try clear c6b0
        try clear c6b1
        try clear c7
        try clear c7b0
        try clear c7b1
        try clear p4
        try clear q4
        obtain ⟨kq, x4_4, x7_4, rfl, rfl, HA, HJ4, ⟨mc4, rfl⟩⟩ := hcut
        cases kq with
        | zero => exact absurd HA.out (by simp [strconv_readFloat.j0])
        | succ kj4 =>
          have H := HA.out
          clear HA
          simp only [strconv_readFloat.j0] at H
          have HC8 := Aside0.mk H
          clear H
          go_upto_region 12 with (fail)
          (try (go_step3; (try (go_upto_region 12 with (fail)))))
          go_cut [54] (fun v54 wc => ∃ (kq : Nat) (x54_7 : Bool), v54 = .bool x54_7 ∧ Aside0 (strconv_readFloat.j1 kq a0 0 0 x4_4 false false x7_4 false false 10 19 101 x54_7 = some (r1, r2, r3, r4, r5, r6, r7)) ∧ Aside0 (kq ≤ kj4) ∧ Drawn0 w wc)
          case first =>
            have H := HC8.out
            clear HC8
            by_cases c9 : (wrap64 (x7_4 + 2)) < (a0.size : Int)
            · rw [if_pos c9] at H
              have c9b0 : decide ((wrap64 (x7_4 + 2)) < (a0.size : Int)) = true := decide_eq_true c9
              clear c9
              (first | rw [c9b0] | (simp only [i64_w, i32_w]; rw [c9b0]) | skip)
              by_cases c10 : 0 ≤ x7_4
              · rw [if_pos c10] at H
                have c10b0 : decide (0 ≤ x7_4) = true := decide_eq_true c10
                clear c10
                by_cases c11 : x7_4 < (a0.size : Int)
                · rw [if_pos c11] at H
                  have c11b0 : decide (x7_4 < (a0.size : Int)) = true := decide_eq_true c11
                  clear c11
                  by_cases c13 : (bt a0 x7_4) = 48
                  · rw [if_pos c13] at H
                    have c13b0 : ((bt a0 x7_4) == 48) = true := beq_iff_eq.mpr c13
                    have c13b1 : ((bt a0 x7_4) != 48) = false := bne_eq_false_iff_eq.mpr c13
                    clear c13
                    obtain ⟨ji14, hji14⟩ : ∃ j_ : Int, (wrap64 (x7_4 + 1)) = j_ := ⟨_, rfl⟩
                    replace H : (if 0 ≤ (ji14) then (if (ji14) < (a0.size : Int) then ((strconv_lower.f (bt a0 (ji14))).bind fun t123 => (strconv_readFloat.j1 kj4 a0 0 0 x4_4 false false x7_4 false false 10 19 101 (t123 == 120))) else (none)) else (none)) = some (r1, r2, r3, r4, r5, r6, r7) := by first | (rw [hji14] at H; exact H) | (simp only [hji14] at H ⊢; exact H)
                    have hji14w : (IntKind.i64.wrap (x7_4 + 1)) = ji14 := (i64_w _).trans hji14
                    by_cases c15 : 0 ≤ (ji14)
                    · rw [if_pos c15] at H
                      have c15b0 : decide (0 ≤ (ji14)) = true := decide_eq_true c15
                      clear c15
                      by_cases c16 : (ji14) < (a0.size : Int)
                      · rw [if_pos c16] at H
                        have c16b0 : decide ((ji14) < (a0.size : Int)) = true := decide_eq_true c16
                        clear c16
                        replace H := Option.bind_eq_some_iff.mp H
                        obtain ⟨t123, A180, H⟩ := H
                        replace H : (strconv_readFloat.j1 kj4 a0 0 0 x4_4 false false x7_4 false false 10 19 101 (t123 == 120)) = some (r1, r2, r3, r4, r5, r6, r7) := H
                        have A18 := Aside0.mk A180
                        clear A180
                        as_aux_lemma =>
                          have H' := Aside0.mk H
                          clear H
                          have p12 : 0 ≤ (x7_4 : Int) := of_decide_eq_true (by first | (with_reducible assumption) | assumption)
                          have q12 : x7_4 < (a0.size : Int) := of_decide_eq_true (by first | (with_reducible assumption) | assumption)
                          have hx12 := bt_at a0 x7_4
                          replace p12 := eq_true p12
                          replace q12 := eq_true q12
                          have p17 : 0 ≤ ((ji14) : Int) := of_decide_eq_true (by first | (with_reducible assumption) | assumption)
                          have q17 : (ji14) < (a0.size : Int) := of_decide_eq_true (by first | (with_reducible assumption) | assumption)
                          have hx17 := bt_at a0 (ji14)
                          replace p17 := eq_true p17
                          replace q17 := eq_true q17
                          go_wp2_with (first | (go_at_call 46; (with_reducible refine (strconv_lower.calls (bt a0 (ji14)) t123 _ A18.out).mono ?_); rintro e w' ⟨rfl, ⟨nd, rfl⟩⟩))
                          go_meet
                          case rel => exact ⟨_, ((t123 == 120)), (by first | rfl | (simp; done) | (simp [*]; done)), H', ⟨by have := HJ4.out; first | omega | exact Nat.le_refl _⟩, by repeat (first | exact Drawn0.refl _ | apply Drawn0.step)⟩
                      · rw [if_neg c16] at H
                        exact absurd H (by simp)
                    · rw [if_neg c15] at H
                      exact absurd H (by simp)
                  · rw [if_neg c13] at H
                    have c13b0 : ((bt a0 x7_4) == 48) = false := beq_eq_false_iff_ne.mpr c13
                    have c13b1 : ((bt a0 x7_4) != 48) = true := bne_iff_ne.mpr c13
                    as_aux_lemma =>
                      have H' := Aside0.mk H
                      clear H
                      have p12 : 0 ≤ (x7_4 : Int) := of_decide_eq_true (by first | (with_reducible assumption) | assumption)
                      have q12 : x7_4 < (a0.size : Int) := of_decide_eq_true (by first | (with_reducible assumption) | assumption)
                      have hx12 := bt_at a0 x7_4
                      replace p12 := eq_true p12
                      replace q12 := eq_true q12
                      go_wp2
                      go_meet
                      case rel => exact ⟨_, (false), (by first | rfl | (simp; done) | (simp [*]; done)), H', ⟨by have := HJ4.out; first | omega | exact Nat.le_refl _⟩, by repeat (first | exact Drawn0.refl _ | apply Drawn0.step)⟩
                · rw [if_neg c11] at H
                  exact absurd H (by simp)
              · rw [if_neg c10] at H
                exact absurd H (by simp)
            · rw [if_neg c9] at H
              have c9b0 : decide ((wrap64 (x7_4 + 2)) < (a0.size : Int)) = false := decide_eq_false c9
              clear c9
              (first | rw [c9b0] | (simp only [i64_w, i32_w]; rw [c9b0]) | skip)
              as_aux_lemma =>
                have H' := Aside0.mk H
                clear H
                go_wp2
                go_meet
                case rel => exact ⟨_, (false), (by first | rfl | (simp; done) | (simp [*]; done)), H', ⟨by have := HJ4.out; first | omega | exact Nat.le_refl _⟩, by repeat (first | exact Drawn0.refl _ | apply Drawn0.step)⟩
          case rest =>
            clear HC8
            try clear c1
            try clear p1
            try clear q1
            try clear hx1
            try clear c2
            try clear c2b0
            try clear c2b1
            try clear p2
            try clear c3
            try clear c3b0
            try clear c3b1
            try clear p3
            try clear c4
            try clear p4
            try clear q4
            try clear hx4
            try clear qi4
            try clear c6
            try clear c6b0
            try clear c6b1
            try clear p6
            try clear c7
            try clear c7b0
            try clear c7b1
            try clear c9
            try clear c9b0
            try clear c10
            try clear c10b0
            try clear c11
            try clear c11b0
            try clear p12
            try clear q12
            try clear hx12
            try clear c13
            try clear c13b0
            try clear c13b1
            try clear c15
            try clear c15b0
            try clear c16
            try clear c16b0
            try clear p17
            try clear q17
            try clear hx17
            try clear p12
            try clear p17
            try clear p2
            try clear p3
            try clear p4
            try clear q12
            try clear q17
            try clear q4
            obtain ⟨kq, x54_7, rfl, HA, HJ7, ⟨mc7, rfl⟩⟩ := hcut
            cases kq with
            | zero => exact absurd HA.out (by simp [strconv_readFloat.j1])
            | succ kj7 =>
              have H := HA.out
              clear HA
              simp only [strconv_readFloat.j1] at H
              have HC19 := Aside0.mk H
              clear H
              go_upto_if 54 with (fail)
              (try (go_step3; (try (go_upto_if 54 with (fail)))))
              go_cut [6, 7, 10, 11, 12] (fun v6 v7 v10 v11 v12 wc => ∃ (kq : Nat) (x6_18 : Bool) (x7_18 : Int) (x10_18 : Int) (x11_18 : Int) (x12_18 : Int), v6 = .bool x6_18 ∧ v7 = .int .i64 x7_18 ∧ v10 = .int .u64 x10_18 ∧ v11 = .int .i64 x11_18 ∧ v12 = .int .u8 x12_18 ∧ Aside0 (strconv_readFloat.j2 kq a0 0 0 x4_4 false x6_18 x7_18 false false x10_18 x11_18 x12_18 = some (r1, r2, r3, r4, r5, r6, r7)) ∧ Aside0 (kq ≤ kj7) ∧ Drawn0 w wc)
              case first =>
                have H := HC19.out
                clear HC19
                by_cases c20 : x54_7 = true
                · subst c20
                  have H1 : (strconv_readFloat.j2 kj7 a0 0 0 x4_4 false true (wrap64 (x7_4 + 2)) false false 16 16 112) = some (r1, r2, r3, r4, r5, r6, r7) := by rw [if_pos rfl] at H; exact H
                  clear H
                  have H := H1
                  clear H1
                  as_aux_lemma =>
                    have H' := Aside0.mk H
                    clear H
                    go_wp2
                    go_meet
                    case rel => exact ⟨_, (true), (wrap64 (x7_4 + 2)), (16), (16), (112), (by first | rfl | (simp; done) | (simp [*]; done)), (by first | rfl | (simp; done) | (simp [*]; done)), (by first | rfl | (simp; done) | (simp [*]; done)), (by first | rfl | (simp; done) | (simp [*]; done)), (by first | rfl | (simp; done) | (simp [*]; done)), H', ⟨by have := HJ4.out; have := HJ7.out; first | omega | exact Nat.le_refl _⟩, by repeat (first | exact Drawn0.refl _ | apply Drawn0.step)⟩
                · replace c20 := Bool.eq_false_iff.mpr c20
                  subst c20
                  have H1 : (strconv_readFloat.j2 kj7 a0 0 0 x4_4 false false x7_4 false false 10 19 101) = some (r1, r2, r3, r4, r5, r6, r7) := by rw [if_neg (show ¬ (false = true) by decide)] at H; exact H
                  clear H
                  have H := H1
                  clear H1
                  as_aux_lemma =>
                    have H' := Aside0.mk H
                    clear H
                    go_wp2
                    go_meet
                    case rel => exact ⟨_, (false), (x7_4), (10), (19), (101), (by first | rfl | (simp; done) | (simp [*]; done)), (by first | rfl | (simp; done) | (simp [*]; done)), (by first | rfl | (simp; done) | (simp [*]; done)), (by first | rfl | (simp; done) | (simp [*]; done)), (by first | rfl | (simp; done) | (simp [*]; done)), H', ⟨by have := HJ4.out; have := HJ7.out; first | omega | exact Nat.le_refl _⟩, by repeat (first | exact Drawn0.refl _ | apply Drawn0.step)⟩
              case rest =>
                clear HC19
                try clear c1
                try clear p1
                try clear q1
                try clear hx1
                try clear c2
                try clear c2b0
                try clear c2b1
                try clear p2
                try clear c3
                try clear c3b0
                try clear c3b1
                try clear p3
                try clear c4
                try clear p4
                try clear q4
                try clear hx4
                try clear qi4
                try clear c6
                try clear c6b0
                try clear c6b1
                try clear p6
                try clear c7
                try clear c7b0
                try clear c7b1
                try clear c9
                try clear c9b0
                try clear c10
                try clear c10b0
                try clear c11
                try clear c11b0
                try clear p12
                try clear q12
                try clear hx12
                try clear c13
                try clear c13b0
                try clear c13b1
                try clear c15
                try clear c15b0
                try clear c16
                try clear c16b0
                try clear p17
                try clear q17
                try clear hx17
                try clear c20
                try clear p1
                try clear p12
                try clear p17
                try clear p2
                try clear p3
                try clear p4
                try clear p6
                try clear q1
                try clear q12
                try clear q17
                try clear q4
                obtain ⟨kq, x6_18, x7_18, x10_18, x11_18, x12_18, rfl, rfl, rfl, rfl, rfl, HA, HJ18, ⟨mc18, rfl⟩⟩ := hcut
                cases kq with
                | zero => exact absurd HA.out (by simp [strconv_readFloat.j2])
                | succ kj18 =>
                  have H := HA.out
                  clear HA
                  simp only [strconv_readFloat.j2] at H
                  have HC21 := Aside0.mk H
                  clear H
                  go_upto_block 1 with (fail)
                  (try (go_step3; (try (go_upto_block 1 with (fail)))))
                  go_cut [2, 5, 7, 9, 13, 14, 15, 16, 17] (fun v2 v5 v7 v9 v13 v14 v15 v16 v17 wc => ∃ (kq : Nat) (x2_20 : Int) (x5_20 : Bool) (x7_20 : Int) (x9_20 : Bool) (x13_20 : Bool) (x14_20 : Bool) (x15_20 : Int) (x16_20 : Int) (x17_20 : Int), v2 = .int .u64 x2_20 ∧ v5 = .bool x5_20 ∧ v7 = .int .i64 x7_20 ∧ v9 = .bool x9_20 ∧ v13 = .bool x13_20 ∧ v14 = .bool x14_20 ∧ v15 = .int .i64 x15_20 ∧ v16 = .int .i64 x16_20 ∧ v17 = .int .i64 x17_20 ∧ Aside0 (strconv_readFloat.j7 kq a0 x2_20 0 x4_4 x5_20 x6_18 x7_20 false x9_20 x10_18 x12_18 x13_20 x14_20 x15_20 x16_20 x17_20 = some (r1, r2, r3, r4, r5, r6, r7)) ∧ Aside0 (kq ≤ kj18) ∧ Drawn0 w wc)
                  case first =>
                    have H := HC21.out
                    clear HC21
                    have H' := Aside0.mk H
                    clear H
                    go_wp2
                    (try (go_step3; go_wp2))
                    go_loopg [2, 5, 7, 9, 13, 14, 15, 16, 17] kj18 (fun kq v2 v5 v7 v9 v13 v14 v15 v16 v17 w' => ∃ (x2_4 : Int) (x5_4 : Bool) (x7_4 : Int) (x9_4 : Bool) (x13_4 : Bool) (x14_4 : Bool) (x15_4 : Int) (x16_4 : Int) (x17_4 : Int), v2 = .int .u64 x2_4 ∧ v5 = .bool x5_4 ∧ v7 = .int .i64 x7_4 ∧ v9 = .bool x9_4 ∧ v13 = .bool x13_4 ∧ v14 = .bool x14_4 ∧ v15 = .int .i64 x15_4 ∧ v16 = .int .i64 x16_4 ∧ v17 = .int .i64 x17_4 ∧ Aside0 (strconv_readFloat.l0 kq a0 x2_4 0 x4_4 x5_4 x6_18 x7_4 false x9_4 x10_18 x11_18 x12_18 x13_4 x14_4 x15_4 x16_4 x17_4 = some (r1, r2, r3, r4, r5, r6, r7)) ∧ Aside0 (kq ≤ kj18) ∧ Drawn0 w w')
                    case atStart => exact ⟨(0), (false), (x7_18), (false), (false), (false), (0), (0), (0), (by first | rfl | (simp; done) | (simp [*]; done)), (by first | rfl | (simp; done) | (simp [*]; done)), (by first | rfl | (simp; done) | (simp [*]; done)), (by first | rfl | (simp; done) | (simp [*]; done)), (by first | rfl | (simp; done) | (simp [*]; done)), (by first | rfl | (simp; done) | (simp [*]; done)), (by first | rfl | (simp; done) | (simp [*]; done)), (by first | rfl | (simp; done) | (simp [*]; done)), (by first | rfl | (simp; done) | (simp [*]; done)), H', ⟨Nat.le_refl _⟩, by repeat (first | exact Drawn0.refl _ | apply Drawn0.step)⟩
                    case round =>
                      clear H'
                      try clear c1
                      try clear p1
                      try clear q1
                      try clear hx1
                      try clear c2
                      try clear c2b0
                      try clear c2b1
                      try clear p2
                      try clear c3
                      try clear c3b0
                      try clear c3b1
                      try clear p3
                      try clear c4
                      try clear p4
                      try clear q4
                      try clear hx4
                      try clear qi4
                      try clear c6
                      try clear c6b0
                      try clear c6b1
                      try clear p6
                      try clear c7
                      try clear c7b0
                      try clear c7b1
                      try clear c9
                      try clear c9b0
                      try clear c10
                      try clear c10b0
                      try clear c11
                      try clear c11b0
                      try clear p12
                      try clear q12
                      try clear hx12
                      try clear c13
                      try clear c13b0
                      try clear c13b1
                      try clear c15
                      try clear c15b0
                      try clear c16
                      try clear c16b0
                      try clear p17
                      try clear q17
                      try clear hx17
                      try clear c18
                      try clear c20
                      try clear p1
                      try clear p12
                      try clear p17
                      try clear p2
                      try clear p3
                      try clear p4
                      try clear p6
                      try clear q1
                      try clear q12
                      try clear q17
                      try clear q4
                      obtain ⟨x2_4, x5_4, x7_4, x9_4, x13_4, x14_4, x15_4, x16_4, x17_4, rfl, rfl, rfl, rfl, rfl, rfl, rfl, rfl, rfl, HA, HK4, ⟨m4, rfl⟩⟩ := hrel
                      cases gk with
                      | zero => exact absurd HA.out (by simp [strconv_readFloat.l0])
                      | succ k4 =>
                        have H := HA.out
                        clear HA
                        simp only [strconv_readFloat.l0] at H
                        by_cases c22 : x7_4 < (a0.size : Int)
                        · rw [if_pos c22] at H
                          have c22b0 : decide (x7_4 < (a0.size : Int)) = true := decide_eq_true c22
                          clear c22
                          (first | rw [c22b0] | (simp only [i64_w, i32_w]; rw [c22b0]) | skip)
                          by_cases c23 : 0 ≤ x7_4
                          · rw [if_pos c23] at H
                            have c23b0 : decide (0 ≤ x7_4) = true := decide_eq_true c23
                            clear c23
                            by_cases c25 : (true == ((bt a0 x7_4) == 95)) = true
                            · rw [if_pos c25] at H
                              exact absurd H (by simp)
                            · rw [if_neg c25] at H
                              have c25b0 : (true == ((bt a0 x7_4) == 95)) = false := by simpa using c25
                              (try (have c25b1 : decide (true = ((bt a0 x7_4) == 95)) = false := by simpa using c25))
                              (try (have c25b2 : (true == ((bt a0 x7_4) == 95)) = false := by simpa using c25))
                              (try (have c25b3 : ¬ (true = ((bt a0 x7_4) == 95)) := by simpa using c25))
                              clear c25
                              by_cases c26 : (true == ((bt a0 x7_4) == 46)) = true
                              · rw [if_pos c26] at H
                                have c26b0 : (true == ((bt a0 x7_4) == 46)) = true := c26
                                (try (have c26b1 : decide (true = ((bt a0 x7_4) == 46)) = true := by simpa using c26))
                                (try (have c26b2 : (true == ((bt a0 x7_4) == 46)) = true := by simpa using c26))
                                clear c26
                                by_cases c27 : x13_4 = true
                                · subst c27
                                  have H1 : (strconv_readFloat.j7 k4 a0 x2_4 0 x4_4 x5_4 x6_18 x7_4 false x9_4 x10_18 x12_18 true x14_4 x15_4 x16_4 x17_4) = some (r1, r2, r3, r4, r5, r6, r7) := by rw [if_pos rfl] at H; exact H
                                  clear H
                                  have H := H1
                                  clear H1
                                  as_aux_lemma =>
                                    have H' := Aside0.mk H
                                    clear H
                                    have p24 : 0 ≤ (x7_4 : Int) := of_decide_eq_true (by first | (with_reducible assumption) | assumption)
                                    have q24 : x7_4 < (a0.size : Int) := of_decide_eq_true (by first | (with_reducible assumption) | assumption)
                                    have hx24 := bt_at a0 x7_4
                                    replace p24 := eq_true p24
                                    replace q24 := eq_true q24
                                    go_wp2
                                    go_meet
                                    case rel => exact ⟨_, (x2_4), (x5_4), (x7_4), (x9_4), (true), (x14_4), (x15_4), (x16_4), (x17_4), (by first | rfl | (simp; done) | (simp [*]; done)), (by first | rfl | (simp; done) | (simp [*]; done)), (by first | rfl | (simp; done) | (simp [*]; done)), (by first | rfl | (simp; done) | (simp [*]; done)), (by first | rfl | (simp; done) | (simp [*]; done)), (by first | rfl | (simp; done) | (simp [*]; done)), (by first | rfl | (simp; done) | (simp [*]; done)), (by first | rfl | (simp; done) | (simp [*]; done)), (by first | rfl | (simp; done) | (simp [*]; done)), H', ⟨by have := HJ4.out; have := HJ7.out; have := HJ18.out; have := HK4.out; first | omega | exact Nat.le_refl _⟩, by repeat (first | exact Drawn0.refl _ | apply Drawn0.step)⟩
                                · replace c27 := Bool.eq_false_iff.mpr c27
                                  subst c27
                                  have H1 : (strconv_readFloat.l0 k4 a0 x2_4 0 x4_4 x5_4 x6_18 (wrap64 (x7_4 + 1)) false x9_4 x10_18 x11_18 x12_18 true x14_4 x15_4 x16_4 x15_4) = some (r1, r2, r3, r4, r5, r6, r7) := by rw [if_neg (show ¬ (false = true) by decide)] at H; exact H
                                  clear H
                                  have H := H1
                                  clear H1
                                  as_aux_lemma =>
                                    have H' := Aside0.mk H
                                    clear H
                                    have p24 : 0 ≤ (x7_4 : Int) := of_decide_eq_true (by first | (with_reducible assumption) | assumption)
                                    have q24 : x7_4 < (a0.size : Int) := of_decide_eq_true (by first | (with_reducible assumption) | assumption)
                                    have hx24 := bt_at a0 x7_4
                                    replace p24 := eq_true p24
                                    replace q24 := eq_true q24
                                    go_wp2
                                    go_roundg k4
                                    case measure => have := HJ4.out; have := HJ7.out; have := HJ18.out; have := HK4.out; omega
                                    case rel => exact ⟨(x2_4), (x5_4), (wrap64 (x7_4 + 1)), (x9_4), (true), (x14_4), (x15_4), (x16_4), (x15_4), (by first | rfl | (simp; done) | (simp [*]; done)), (by first | rfl | (simp; done) | (simp [*]; done)), (by first | rfl | (simp; done) | (simp [*]; done)), (by first | rfl | (simp; done) | (simp [*]; done)), (by first | rfl | (simp; done) | (simp [*]; done)), (by first | rfl | (simp; done) | (simp [*]; done)), (by first | rfl | (simp; done) | (simp [*]; done)), (by first | rfl | (simp; done) | (simp [*]; done)), (by first | rfl | (simp; done) | (simp [*]; done)), H', ⟨by have := HJ4.out; have := HJ7.out; have := HJ18.out; have := HK4.out; omega⟩, by repeat (first | exact Drawn0.refl _ | apply Drawn0.step)⟩
                              · rw [if_neg c26] at H
                                have c26b0 : (true == ((bt a0 x7_4) == 46)) = false := by simpa using c26
                                (try (have c26b1 : decide (true = ((bt a0 x7_4) == 46)) = false := by simpa using c26))
                                (try (have c26b2 : (true == ((bt a0 x7_4) == 46)) = false := by simpa using c26))
                                (try (have c26b3 : ¬ (true = ((bt a0 x7_4) == 46)) := by simpa using c26))
                                clear c26
                                have HC28 := Aside0.mk H
                                clear H
                                have p24 : 0 ≤ (x7_4 : Int) := of_decide_eq_true (by first | (with_reducible assumption) | assumption)
                                have q24 : x7_4 < (a0.size : Int) := of_decide_eq_true (by first | (with_reducible assumption) | assumption)
                                have hx24 := bt_at a0 x7_4
                                replace p24 := eq_true p24
                                replace q24 := eq_true q24
                                go_upto_region 32 with (fail)
                                (try (go_step3; (try (go_upto_region 32 with (fail)))))
                                go_cut [76] (fun v76 wc => ∃ (kq : Nat) (x76_27 : Bool), v76 = .bool x76_27 ∧ Aside0 (strconv_readFloat.j4 kq a0 x2_4 0 x4_4 x5_4 x6_18 x7_4 false x9_4 x10_18 x11_18 x12_18 x13_4 x14_4 x15_4 x16_4 x17_4 (bt a0 x7_4) x76_27 = some (r1, r2, r3, r4, r5, r6, r7)) ∧ Aside0 (kq ≤ k4) ∧ Drawn0 w wc)
                                case first =>
                                  have H := HC28.out
                                  clear HC28
                                  by_cases c29 : 48 ≤ (bt a0 x7_4)
                                  · rw [if_pos c29] at H
                                    have c29b0 : decide (48 ≤ (bt a0 x7_4)) = true := decide_eq_true c29
                                    clear c29
                                    (first | rw [c29b0] | (simp only [i64_w, i32_w]; rw [c29b0]) | skip)
                                    as_aux_lemma =>
                                      have H' := Aside0.mk H
                                      clear H
                                      go_wp2
                                      go_meet
                                      case rel => exact ⟨_, ((true == (decide ((bt a0 x7_4) ≤ 57)))), (by first | rfl | (simp; done) | (simp [*]; done)), H', ⟨by have := HJ4.out; have := HJ7.out; have := HJ18.out; have := HK4.out; first | omega | exact Nat.le_refl _⟩, by repeat (first | exact Drawn0.refl _ | apply Drawn0.step)⟩
                                  · rw [if_neg c29] at H
                                    have c29b0 : decide (48 ≤ (bt a0 x7_4)) = false := decide_eq_false c29
                                    clear c29
                                    (first | rw [c29b0] | (simp only [i64_w, i32_w]; rw [c29b0]) | skip)
                                    as_aux_lemma =>
                                      have H' := Aside0.mk H
                                      clear H
                                      go_wp2
                                      go_meet
                                      case rel => exact ⟨_, ((true == false)), (by first | rfl | (simp; done) | (simp [*]; done)), H', ⟨by have := HJ4.out; have := HJ7.out; have := HJ18.out; have := HK4.out; first | omega | exact Nat.le_refl _⟩, by repeat (first | exact Drawn0.refl _ | apply Drawn0.step)⟩
                                case rest =>
                                  clear HC28
                                  try clear c1
                                  try clear p1
                                  try clear q1
                                  try clear hx1
                                  try clear c2
                                  try clear c2b0
                                  try clear c2b1
                                  try clear p2
                                  try clear q2
                                  try clear hx2
                                  try clear c3
                                  try clear c3b0
                                  try clear c3b1
                                  try clear p3
                                  try clear c4
                                  try clear p4
                                  try clear q4
                                  try clear hx4
                                  try clear qi4
                                  try clear c6
                                  try clear c6b0
                                  try clear c6b1
                                  try clear p6
                                  try clear c7
                                  try clear c7b0
                                  try clear c7b1
                                  try clear c9
                                  try clear c9b0
                                  try clear c10
                                  try clear c10b0
                                  try clear c11
                                  try clear c11b0
                                  try clear p12
                                  try clear q12
                                  try clear hx12
                                  try clear c13
                                  try clear c13b0
                                  try clear c13b1
                                  try clear c15
                                  try clear c15b0
                                  try clear c16
                                  try clear c16b0
                                  try clear p17
                                  try clear q17
                                  try clear hx17
                                  try clear c18
                                  try clear c20
                                  try clear c22
                                  try clear c22b0
                                  try clear c23
                                  try clear c23b0
                                  try clear p24
                                  try clear q24
                                  try clear hx24
                                  try clear c25
                                  try clear c25b0
                                  try clear c25b1
                                  try clear c25b2
                                  try clear c26
                                  try clear c26b0
                                  try clear c26b1
                                  try clear c26b2
                                  try clear c27
                                  try clear c29
                                  try clear c29b0
                                  try clear p1
                                  try clear p12
                                  try clear p17
                                  try clear p2
                                  try clear p24
                                  try clear p3
                                  try clear p4
                                  try clear p6
                                  try clear q1
                                  try clear q12
                                  try clear q17
                                  try clear q24
                                  try clear q4
                                  obtain ⟨kq, x76_27, rfl, HA, HJ27, ⟨mc27, rfl⟩⟩ := hcut
                                  cases kq with
                                  | zero => exact absurd HA.out (by simp [strconv_readFloat.j4])
                                  | succ kj27 =>
                                    have H := HA.out
                                    clear HA
                                    simp only [strconv_readFloat.j4] at H
                                    by_cases c30 : x76_27 = true
                                    · subst c30
                                      have H1 : (if (bt a0 x7_4) = 48 then (strconv_readFloat.j5 kj27 a0 x2_4 0 x4_4 x5_4 x6_18 x7_4 false x9_4 x10_18 x11_18 x12_18 x13_4 true x15_4 x16_4 x17_4 (bt a0 x7_4) (x15_4 == 0)) else (strconv_readFloat.j5 kj27 a0 x2_4 0 x4_4 x5_4 x6_18 x7_4 false x9_4 x10_18 x11_18 x12_18 x13_4 true x15_4 x16_4 x17_4 (bt a0 x7_4) false)) = some (r1, r2, r3, r4, r5, r6, r7) := by rw [if_pos rfl] at H; exact H
                                      clear H
                                      have H := H1
                                      clear H1
                                      have HC31 := Aside0.mk H
                                      clear H
                                      go_upto_region 34 with (fail)
                                      (try (go_step3; (try (go_upto_region 34 with (fail)))))
                                      go_cut [89] (fun v89 wc => ∃ (kq : Nat) (x89_30 : Bool), v89 = .bool x89_30 ∧ Aside0 (strconv_readFloat.j5 kq a0 x2_4 0 x4_4 x5_4 x6_18 x7_4 false x9_4 x10_18 x11_18 x12_18 x13_4 true x15_4 x16_4 x17_4 (bt a0 x7_4) x89_30 = some (r1, r2, r3, r4, r5, r6, r7)) ∧ Aside0 (kq ≤ kj27) ∧ Drawn0 w wc)
                                      case first =>
                                        have H := HC31.out
                                        clear HC31
                                        by_cases c32 : (bt a0 x7_4) = 48
                                        · rw [if_pos c32] at H
                                          have c32b0 : ((bt a0 x7_4) == 48) = true := beq_iff_eq.mpr c32
                                          have c32b1 : ((bt a0 x7_4) != 48) = false := bne_eq_false_iff_eq.mpr c32
                                          clear c32
                                          (first | rw [c32b0] | (simp only [i64_w, i32_w]; rw [c32b0]) | skip)
                                          as_aux_lemma =>
                                            have H' := Aside0.mk H
                                            clear H
                                            go_wp2
                                            go_meet
                                            case rel => exact ⟨_, ((x15_4 == 0)), (by first | rfl | (simp; done) | (simp [*]; done)), H', ⟨by have := HJ4.out; have := HJ7.out; have := HJ18.out; have := HK4.out; have := HJ27.out; first | omega | exact Nat.le_refl _⟩, by repeat (first | exact Drawn0.refl _ | apply Drawn0.step)⟩
                                        · rw [if_neg c32] at H
                                          have c32b0 : ((bt a0 x7_4) == 48) = false := beq_eq_false_iff_ne.mpr c32
                                          have c32b1 : ((bt a0 x7_4) != 48) = true := bne_iff_ne.mpr c32
                                          (first | rw [c32b0] | (simp only [i64_w, i32_w]; rw [c32b0]) | skip)
                                          as_aux_lemma =>
                                            have H' := Aside0.mk H
                                            clear H
                                            go_wp2
                                            go_meet
                                            case rel => exact ⟨_, (false), (by first | rfl | (simp; done) | (simp [*]; done)), H', ⟨by have := HJ4.out; have := HJ7.out; have := HJ18.out; have := HK4.out; have := HJ27.out; first | omega | exact Nat.le_refl _⟩, by repeat (first | exact Drawn0.refl _ | apply Drawn0.step)⟩
                                      case rest =>
                                        clear HC31
                                        try clear c1
                                        try clear p1
                                        try clear q1
                                        try clear hx1
                                        try clear c2
                                        try clear c2b0
                                        try clear c2b1
                                        try clear p2
                                        try clear q2
                                        try clear hx2
                                        try clear c3
                                        try clear c3b0
                                        try clear c3b1
                                        try clear p3
                                        try clear c4
                                        try clear p4
                                        try clear q4
                                        try clear hx4
                                        try clear qi4
                                        try clear c6
                                        try clear c6b0
                                        try clear c6b1
                                        try clear p6
                                        try clear c7
                                        try clear c7b0
                                        try clear c7b1
                                        try clear c9
                                        try clear c9b0
                                        try clear c10
                                        try clear c10b0
                                        try clear c11
                                        try clear c11b0
                                        try clear p12
                                        try clear q12
                                        try clear hx12
                                        try clear c13
                                        try clear c13b0
                                        try clear c13b1
                                        try clear c15
                                        try clear c15b0
                                        try clear c16
                                        try clear c16b0
                                        try clear p17
                                        try clear q17
                                        try clear hx17
                                        try clear c18
                                        try clear c20
                                        try clear c22
                                        try clear c22b0
                                        try clear c23
                                        try clear c23b0
                                        try clear p24
                                        try clear q24
                                        try clear hx24
                                        try clear c25
                                        try clear c25b0
                                        try clear c25b1
                                        try clear c25b2
                                        try clear c26
                                        try clear c26b0
                                        try clear c26b1
                                        try clear c26b2
                                        try clear c27
                                        try clear c29
                                        try clear c29b0
                                        try clear c30
                                        try clear c32
                                        try clear c32b0
                                        try clear c32b1
                                        try clear p1
                                        try clear p12
                                        try clear p17
                                        try clear p2
                                        try clear p24
                                        try clear p3
                                        try clear p4
                                        try clear p6
                                        try clear q1
                                        try clear q12
                                        try clear q17
                                        try clear q2
                                        try clear q24
                                        try clear q4
                                        obtain ⟨kq, x89_30, rfl, HA, HJ30, ⟨mc30, rfl⟩⟩ := hcut
                                        cases kq with
                                        | zero => exact absurd HA.out (by simp [strconv_readFloat.j5])
                                        | succ kj30 =>
                                          have H := HA.out
                                          clear HA
                                          simp only [strconv_readFloat.j5] at H
                                          by_cases c33 : x89_30 = true
                                          · subst c33
                                            have H1 : (strconv_readFloat.l0 kj30 a0 x2_4 0 x4_4 x5_4 x6_18 (wrap64 (x7_4 + 1)) false x9_4 x10_18 x11_18 x12_18 x13_4 true x15_4 x16_4 (wrap64 (x17_4 - 1))) = some (r1, r2, r3, r4, r5, r6, r7) := by rw [if_pos rfl] at H; exact H
                                            clear H
                                            have H := H1
                                            clear H1
                                            as_aux_lemma =>
                                              have H' := Aside0.mk H
                                              clear H
                                              go_wp2
                                              go_roundg kj30
                                              case measure => have := HJ4.out; have := HJ7.out; have := HJ18.out; have := HK4.out; have := HJ27.out; have := HJ30.out; omega
                                              case rel => exact ⟨(x2_4), (x5_4), (wrap64 (x7_4 + 1)), (x9_4), (x13_4), (true), (x15_4), (x16_4), (wrap64 (x17_4 - 1)), (by first | rfl | (simp; done) | (simp [*]; done)), (by first | rfl | (simp; done) | (simp [*]; done)), (by first | rfl | (simp; done) | (simp [*]; done)), (by first | rfl | (simp; done) | (simp [*]; done)), (by first | rfl | (simp; done) | (simp [*]; done)), (by first | rfl | (simp; done) | (simp [*]; done)), (by first | rfl | (simp; done) | (simp [*]; done)), (by first | rfl | (simp; done) | (simp [*]; done)), (by first | rfl | (simp; done) | (simp [*]; done)), H', ⟨by have := HJ4.out; have := HJ7.out; have := HJ18.out; have := HK4.out; have := HJ27.out; have := HJ30.out; omega⟩, by repeat (first | exact Drawn0.refl _ | apply Drawn0.step)⟩
                                          · replace c33 := Bool.eq_false_iff.mpr c33
                                            subst c33
                                            have H1 : (if x16_4 < x11_18 then (strconv_readFloat.l0 kj30 a0 (IntKind.u64.wrap ((IntKind.u64.wrap (x2_4 * x10_18)) + (((bt a0 x7_4) - 48) % 256))) 0 x4_4 x5_4 x6_18 (wrap64 (x7_4 + 1)) false x9_4 x10_18 x11_18 x12_18 x13_4 true (wrap64 (x15_4 + 1)) (wrap64 (x16_4 + 1)) x17_4) else (none)) = some (r1, r2, r3, r4, r5, r6, r7) := by rw [if_neg (show ¬ (false = true) by decide)] at H; exact H
                                            clear H
                                            have H := H1
                                            clear H1
                                            by_cases c34 : x16_4 < x11_18
                                            · rw [if_pos c34] at H
                                              have c34b0 : decide (x16_4 < x11_18) = true := decide_eq_true c34
                                              clear c34
                                              as_aux_lemma =>
                                                have H' := Aside0.mk H
                                                clear H
                                                go_wp2
                                                go_roundg kj30
                                                case measure => have := HJ4.out; have := HJ7.out; have := HJ18.out; have := HK4.out; have := HJ27.out; have := HJ30.out; omega
                                                case rel => exact ⟨(IntKind.u64.wrap ((IntKind.u64.wrap (x2_4 * x10_18)) + (((bt a0 x7_4) - 48) % 256))), (x5_4), (wrap64 (x7_4 + 1)), (x9_4), (x13_4), (true), (wrap64 (x15_4 + 1)), (wrap64 (x16_4 + 1)), (x17_4), (by first | rfl | (simp; done) | (simp [*]; done)), (by first | rfl | (simp; done) | (simp [*]; done)), (by first | rfl | (simp; done) | (simp [*]; done)), (by first | rfl | (simp; done) | (simp [*]; done)), (by first | rfl | (simp; done) | (simp [*]; done)), (by first | rfl | (simp; done) | (simp [*]; done)), (by first | rfl | (simp; done) | (simp [*]; done)), (by first | rfl | (simp; done) | (simp [*]; done)), (by first | rfl | (simp; done) | (simp [*]; done)), H', ⟨by have := HJ4.out; have := HJ7.out; have := HJ18.out; have := HK4.out; have := HJ27.out; have := HJ30.out; omega⟩, by repeat (first | exact Drawn0.refl _ | apply Drawn0.step)⟩
                                            · rw [if_neg c34] at H
                                              exact absurd H (by simp)
                                    · replace c30 := Bool.eq_false_iff.mpr c30
                                      subst c30
                                      have H1 : (if x10_18 = 16 then ((strconv_lower.f (bt a0 x7_4)).bind fun t124 => (if 97 ≤ t124 then (strconv_readFloat.j6 kj27 a0 x2_4 0 x4_4 x5_4 x6_18 x7_4 false x9_4 x10_18 x11_18 x12_18 x13_4 x14_4 x15_4 x16_4 x17_4 (bt a0 x7_4) (true == (decide (t124 ≤ 102)))) else (strconv_readFloat.j6 kj27 a0 x2_4 0 x4_4 x5_4 x6_18 x7_4 false x9_4 x10_18 x11_18 x12_18 x13_4 x14_4 x15_4 x16_4 x17_4 (bt a0 x7_4) (true == false)))) else (strconv_readFloat.j6 kj27 a0 x2_4 0 x4_4 x5_4 x6_18 x7_4 false x9_4 x10_18 x11_18 x12_18 x13_4 x14_4 x15_4 x16_4 x17_4 (bt a0 x7_4) (true == false))) = some (r1, r2, r3, r4, r5, r6, r7) := by rw [if_neg (show ¬ (false = true) by decide)] at H; exact H
                                      clear H
                                      have H := H1
                                      clear H1
                                      have HC35 := Aside0.mk H
                                      clear H
                                      go_upto_region 43 with (fail)
                                      (try (go_step3; (try (go_upto_region 43 with (fail)))))
                                      go_cut [109] (fun v109 wc => ∃ (kq : Nat) (x109_34 : Bool), v109 = .bool x109_34 ∧ Aside0 (strconv_readFloat.j6 kq a0 x2_4 0 x4_4 x5_4 x6_18 x7_4 false x9_4 x10_18 x11_18 x12_18 x13_4 x14_4 x15_4 x16_4 x17_4 (bt a0 x7_4) x109_34 = some (r1, r2, r3, r4, r5, r6, r7)) ∧ Aside0 (kq ≤ kj27) ∧ Drawn0 w wc)
                                      case first =>
                                        have H := HC35.out
                                        clear HC35
                                        by_cases c36 : x10_18 = 16
                                        · rw [if_pos c36] at H
                                          have c36b0 : (x10_18 == 16) = true := beq_iff_eq.mpr c36
                                          have c36b1 : (x10_18 != 16) = false := bne_eq_false_iff_eq.mpr c36
                                          clear c36
                                          (first | rw [c36b0] | (simp only [i64_w, i32_w]; rw [c36b0]) | skip)
                                          replace H := Option.bind_eq_some_iff.mp H
                                          obtain ⟨t124, A370, H⟩ := H
                                          replace H : (if 97 ≤ t124 then (strconv_readFloat.j6 kj27 a0 x2_4 0 x4_4 x5_4 x6_18 x7_4 false x9_4 x10_18 x11_18 x12_18 x13_4 x14_4 x15_4 x16_4 x17_4 (bt a0 x7_4) (true == (decide (t124 ≤ 102)))) else (strconv_readFloat.j6 kj27 a0 x2_4 0 x4_4 x5_4 x6_18 x7_4 false x9_4 x10_18 x11_18 x12_18 x13_4 x14_4 x15_4 x16_4 x17_4 (bt a0 x7_4) (true == false))) = some (r1, r2, r3, r4, r5, r6, r7) := H
                                          have A37 := Aside0.mk A370
                                          clear A370
                                          by_cases c38 : 97 ≤ t124
                                          · rw [if_pos c38] at H
                                            have c38b0 : decide (97 ≤ t124) = true := decide_eq_true c38
                                            clear c38
                                            as_aux_lemma =>
                                              have H' := Aside0.mk H
                                              clear H
                                              go_wp2_with (first | (go_at_call 46; (with_reducible refine (strconv_lower.calls (bt a0 x7_4) t124 _ A37.out).mono ?_); rintro e w' ⟨rfl, ⟨nd, rfl⟩⟩))
                                              go_meet
                                              case rel => exact ⟨_, ((true == (decide (t124 ≤ 102)))), (by first | rfl | (simp; done) | (simp [*]; done)), H', ⟨by have := HJ4.out; have := HJ7.out; have := HJ18.out; have := HK4.out; have := HJ27.out; first | omega | exact Nat.le_refl _⟩, by repeat (first | exact Drawn0.refl _ | apply Drawn0.step)⟩
                                          · rw [if_neg c38] at H
                                            have c38b0 : decide (97 ≤ t124) = false := decide_eq_false c38
                                            clear c38
                                            as_aux_lemma =>
                                              have H' := Aside0.mk H
                                              clear H
                                              go_wp2_with (first | (go_at_call 46; (with_reducible refine (strconv_lower.calls (bt a0 x7_4) t124 _ A37.out).mono ?_); rintro e w' ⟨rfl, ⟨nd, rfl⟩⟩))
                                              go_meet
                                              case rel => exact ⟨_, ((true == false)), (by first | rfl | (simp; done) | (simp [*]; done)), H', ⟨by have := HJ4.out; have := HJ7.out; have := HJ18.out; have := HK4.out; have := HJ27.out; first | omega | exact Nat.le_refl _⟩, by repeat (first | exact Drawn0.refl _ | apply Drawn0.step)⟩
                                        · rw [if_neg c36] at H
                                          have c36b0 : (x10_18 == 16) = false := beq_eq_false_iff_ne.mpr c36
                                          have c36b1 : (x10_18 != 16) = true := bne_iff_ne.mpr c36
                                          (first | rw [c36b0] | (simp only [i64_w, i32_w]; rw [c36b0]) | skip)
                                          as_aux_lemma =>
                                            have H' := Aside0.mk H
                                            clear H
                                            go_wp2
                                            go_meet
                                            case rel => exact ⟨_, ((true == false)), (by first | rfl | (simp; done) | (simp [*]; done)), H', ⟨by have := HJ4.out; have := HJ7.out; have := HJ18.out; have := HK4.out; have := HJ27.out; first | omega | exact Nat.le_refl _⟩, by repeat (first | exact Drawn0.refl _ | apply Drawn0.step)⟩
                                      case rest =>
                                        clear HC35
                                        try clear c1
                                        try clear p1
                                        try clear q1
                                        try clear hx1
                                        try clear c2
                                        try clear c2b0
                                        try clear c2b1
                                        try clear p2
                                        try clear q2
                                        try clear hx2
                                        try clear c3
                                        try clear c3b0
                                        try clear c3b1
                                        try clear p3
                                        try clear c4
                                        try clear p4
                                        try clear q4
                                        try clear hx4
                                        try clear qi4
                                        try clear c6
                                        try clear c6b0
                                        try clear c6b1
                                        try clear p6
                                        try clear c7
                                        try clear c7b0
                                        try clear c7b1
                                        try clear c9
                                        try clear c9b0
                                        try clear c10
                                        try clear c10b0
                                        try clear c11
                                        try clear c11b0
                                        try clear p12
                                        try clear q12
                                        try clear hx12
                                        try clear c13
                                        try clear c13b0
                                        try clear c13b1
                                        try clear c15
                                        try clear c15b0
                                        try clear c16
                                        try clear c16b0
                                        try clear p17
                                        try clear q17
                                        try clear hx17
                                        try clear c18
                                        try clear c20
                                        try clear c22
                                        try clear c22b0
                                        try clear c23
                                        try clear c23b0
                                        try clear p24
                                        try clear q24
                                        try clear hx24
                                        try clear c25
                                        try clear c25b0
                                        try clear c25b1
                                        try clear c25b2
                                        try clear c26
                                        try clear c26b0
                                        try clear c26b1
                                        try clear c26b2
                                        try clear c27
                                        try clear c29
                                        try clear c29b0
                                        try clear c30
                                        try clear c32
                                        try clear c32b0
                                        try clear c32b1
                                        try clear c33
                                        try clear c34
                                        try clear c34b0
                                        try clear c36
                                        try clear c36b0
                                        try clear c36b1
                                        try clear c38
                                        try clear c38b0
                                        try clear p1
                                        try clear p12
                                        try clear p17
                                        try clear p2
                                        try clear p24
                                        try clear p3
                                        try clear p4
                                        try clear p6
                                        try clear q1
                                        try clear q12
                                        try clear q17
                                        try clear q2
                                        try clear q24
                                        try clear q4
                                        obtain ⟨kq, x109_34, rfl, HA, HJ34, ⟨mc34, rfl⟩⟩ := hcut
                                        cases kq with
                                        | zero => exact absurd HA.out (by simp [strconv_readFloat.j6])
                                        | succ kj34 =>
                                          have H := HA.out
                                          clear HA
                                          simp only [strconv_readFloat.j6] at H
                                          by_cases c39 : x109_34 = true
                                          · subst c39
                                            have H1 : (if x16_4 < x11_18 then ((strconv_lower.f (bt a0 x7_4)).bind fun t125 => (strconv_readFloat.l0 kj34 a0 (IntKind.u64.wrap ((IntKind.u64.wrap (x2_4 * 16)) + ((((t125 - 97) % 256) + 10) % 256))) 0 x4_4 x5_4 x6_18 (wrap64 (x7_4 + 1)) false x9_4 x10_18 x11_18 x12_18 x13_4 true (wrap64 (x15_4 + 1)) (wrap64 (x16_4 + 1)) x17_4)) else (none)) = some (r1, r2, r3, r4, r5, r6, r7) := by rw [if_pos rfl] at H; exact H
                                            clear H
                                            have H := H1
                                            clear H1
                                            by_cases c40 : x16_4 < x11_18
                                            · rw [if_pos c40] at H
                                              have c40b0 : decide (x16_4 < x11_18) = true := decide_eq_true c40
                                              clear c40
                                              replace H := Option.bind_eq_some_iff.mp H
                                              obtain ⟨t125, A410, H⟩ := H
                                              replace H : (strconv_readFloat.l0 kj34 a0 (IntKind.u64.wrap ((IntKind.u64.wrap (x2_4 * 16)) + ((((t125 - 97) % 256) + 10) % 256))) 0 x4_4 x5_4 x6_18 (wrap64 (x7_4 + 1)) false x9_4 x10_18 x11_18 x12_18 x13_4 true (wrap64 (x15_4 + 1)) (wrap64 (x16_4 + 1)) x17_4) = some (r1, r2, r3, r4, r5, r6, r7) := H
                                              have A41 := Aside0.mk A410
                                              clear A410
                                              as_aux_lemma =>
                                                have H' := Aside0.mk H
                                                clear H
                                                go_wp2_with (first | ((with_reducible refine gate_callee (f := 46) rfl ?_); refine goesL_ (some 132) rfl rfl Tryz.func46 (by kernel_rfl) rfl #[.int .u8 (bt a0 x7_4)] rfl (by (try simp only [List.map_toArray, List.map_cons, List.map_nil]); first | done | rfl | (simp only [List.length_drop, List.length_take]; rfl)) ?_; (with_reducible refine (strconv_lower.calls (bt a0 x7_4) t125 _ A41.out).mono ?_); rintro e w' ⟨rfl, ⟨nd, rfl⟩⟩; refine ⟨_, rfl, ?_⟩))
                                                go_roundg kj34
                                                case measure => have := HJ4.out; have := HJ7.out; have := HJ18.out; have := HK4.out; have := HJ27.out; have := HJ34.out; omega
                                                case rel => exact ⟨(IntKind.u64.wrap ((IntKind.u64.wrap (x2_4 * 16)) + ((((t125 - 97) % 256) + 10) % 256))), (x5_4), (wrap64 (x7_4 + 1)), (x9_4), (x13_4), (true), (wrap64 (x15_4 + 1)), (wrap64 (x16_4 + 1)), (x17_4), (by first | rfl | (simp; done) | (simp [*]; done)), (by first | rfl | (simp; done) | (simp [*]; done)), (by first | rfl | (simp; done) | (simp [*]; done)), (by first | rfl | (simp; done) | (simp [*]; done)), (by first | rfl | (simp; done) | (simp [*]; done)), (by first | rfl | (simp; done) | (simp [*]; done)), (by first | rfl | (simp; done) | (simp [*]; done)), (by first | rfl | (simp; done) | (simp [*]; done)), (by first | rfl | (simp; done) | (simp [*]; done)), H', ⟨by have := HJ4.out; have := HJ7.out; have := HJ18.out; have := HK4.out; have := HJ27.out; have := HJ34.out; omega⟩, by repeat (first | exact Drawn0.refl _ | apply Drawn0.step)⟩
                                            · rw [if_neg c40] at H
                                              exact absurd H (by simp)
                                          · replace c39 := Bool.eq_false_iff.mpr c39
                                            subst c39
                                            have H1 : (strconv_readFloat.j7 kj34 a0 x2_4 0 x4_4 x5_4 x6_18 x7_4 false x9_4 x10_18 x12_18 x13_4 x14_4 x15_4 x16_4 x17_4) = some (r1, r2, r3, r4, r5, r6, r7) := by rw [if_neg (show ¬ (false = true) by decide)] at H; exact H
                                            clear H
                                            have H := H1
                                            clear H1
                                            as_aux_lemma =>
                                              have H' := Aside0.mk H
                                              clear H
                                              go_wp2
                                              go_meet
                                              case rel => exact ⟨_, (x2_4), (x5_4), (x7_4), (x9_4), (x13_4), (x14_4), (x15_4), (x16_4), (x17_4), (by first | rfl | (simp; done) | (simp [*]; done)), (by first | rfl | (simp; done) | (simp [*]; done)), (by first | rfl | (simp; done) | (simp [*]; done)), (by first | rfl | (simp; done) | (simp [*]; done)), (by first | rfl | (simp; done) | (simp [*]; done)), (by first | rfl | (simp; done) | (simp [*]; done)), (by first | rfl | (simp; done) | (simp [*]; done)), (by first | rfl | (simp; done) | (simp [*]; done)), (by first | rfl | (simp; done) | (simp [*]; done)), H', ⟨by have := HJ4.out; have := HJ7.out; have := HJ18.out; have := HK4.out; have := HJ27.out; have := HJ34.out; first | omega | exact Nat.le_refl _⟩, by repeat (first | exact Drawn0.refl _ | apply Drawn0.step)⟩
                          · rw [if_neg c23] at H
                            exact absurd H (by simp)
                        · rw [if_neg c22] at H
                          have c22b0 : decide (x7_4 < (a0.size : Int)) = false := decide_eq_false c22
                          clear c22
                          (first | rw [c22b0] | (simp only [i64_w, i32_w]; rw [c22b0]) | skip)
                          as_aux_lemma =>
                            have H' := Aside0.mk H
                            clear H
                            go_wp2
                            go_meet
                            case rel => exact ⟨_, (x2_4), (x5_4), (x7_4), (x9_4), (x13_4), (x14_4), (x15_4), (x16_4), (x17_4), (by first | rfl | (simp; done) | (simp [*]; done)), (by first | rfl | (simp; done) | (simp [*]; done)), (by first | rfl | (simp; done) | (simp [*]; done)), (by first | rfl | (simp; done) | (simp [*]; done)), (by first | rfl | (simp; done) | (simp [*]; done)), (by first | rfl | (simp; done) | (simp [*]; done)), (by first | rfl | (simp; done) | (simp [*]; done)), (by first | rfl | (simp; done) | (simp [*]; done)), (by first | rfl | (simp; done) | (simp [*]; done)), H', ⟨by have := HJ4.out; have := HJ7.out; have := HJ18.out; have := HK4.out; first | omega | exact Nat.le_refl _⟩, by repeat (first | exact Drawn0.refl _ | apply Drawn0.step)⟩
                  case rest =>
                    clear HC21
                    try clear c1
                    try clear p1
                    try clear q1
                    try clear hx1
                    try clear c2
                    try clear c2b0
                    try clear c2b1
                    try clear p2
                    try clear q2
                    try clear hx2
                    try clear c3
                    try clear c3b0
                    try clear c3b1
                    try clear p3
                    try clear c4
                    try clear p4
                    try clear q4
                    try clear hx4
                    try clear qi4
                    try clear c6
                    try clear c6b0
                    try clear c6b1
                    try clear p6
                    try clear c7
                    try clear c7b0
                    try clear c7b1
                    try clear c9
                    try clear c9b0
                    try clear c10
                    try clear c10b0
                    try clear c11
                    try clear c11b0
                    try clear p12
                    try clear q12
                    try clear hx12
                    try clear c13
                    try clear c13b0
                    try clear c13b1
                    try clear c15
                    try clear c15b0
                    try clear c16
                    try clear c16b0
                    try clear p17
                    try clear q17
                    try clear hx17
                    try clear c18
                    try clear c20
                    try clear c22
                    try clear c22b0
                    try clear c23
                    try clear c23b0
                    try clear p24
                    try clear q24
                    try clear hx24
                    try clear c25
                    try clear c25b0
                    try clear c25b1
                    try clear c25b2
                    try clear c26
                    try clear c26b0
                    try clear c26b1
                    try clear c26b2
                    try clear c27
                    try clear c29
                    try clear c29b0
                    try clear c30
                    try clear c32
                    try clear c32b0
                    try clear c32b1
                    try clear c33
                    try clear c34
                    try clear c34b0
                    try clear c36
                    try clear c36b0
                    try clear c36b1
                    try clear c38
                    try clear c38b0
                    try clear c39
                    try clear c40
                    try clear c40b0
                    try clear p1
                    try clear p12
                    try clear p17
                    try clear p2
                    try clear p24
                    try clear p3
                    try clear p4
                    try clear p6
                    try clear q1
                    try clear q12
                    try clear q17
                    try clear q2
                    try clear q24
                    try clear q4
                    obtain ⟨kq, x2_20, x5_20, x7_20, x9_20, x13_20, x14_20, x15_20, x16_20, x17_20, rfl, rfl, rfl, rfl, rfl, rfl, rfl, rfl, rfl, HA, HJ20, ⟨mc20, rfl⟩⟩ := hcut
                    cases kq with
                    | zero => exact absurd HA.out (by simp [strconv_readFloat.j7])
                    | succ kj20 =>
                      have H := HA.out
                      clear HA
                      simp only [strconv_readFloat.j7] at H
                      by_cases c42 : x14_20 = true
                      · subst c42
                        have H1 : (if x13_20 = true then (strconv_readFloat.j8 kj20 a0 x2_20 0 x4_4 x5_20 x6_18 x7_20 false x9_20 x10_18 x12_18 x16_20 x17_20) else (strconv_readFloat.j8 kj20 a0 x2_20 0 x4_4 x5_20 x6_18 x7_20 false x9_20 x10_18 x12_18 x16_20 x15_20)) = some (r1, r2, r3, r4, r5, r6, r7) := by rw [if_pos rfl] at H; exact H
                        clear H
                        have H := H1
                        clear H1
                        have HC43 := Aside0.mk H
                        clear H
                        go_upto_if 142 with (fail)
                        (try (go_step3; (try (go_upto_if 142 with (fail)))))
                        go_cut [17] (fun v17 wc => ∃ (kq : Nat) (x17_42 : Int), v17 = .int .i64 x17_42 ∧ Aside0 (strconv_readFloat.j8 kq a0 x2_20 0 x4_4 x5_20 x6_18 x7_20 false x9_20 x10_18 x12_18 x16_20 x17_42 = some (r1, r2, r3, r4, r5, r6, r7)) ∧ Aside0 (kq ≤ kj20) ∧ Drawn0 w wc)
                        case first =>
                          have H := HC43.out
                          clear HC43
                          by_cases c44 : x13_20 = true
                          · subst c44
                            have H1 : (strconv_readFloat.j8 kj20 a0 x2_20 0 x4_4 x5_20 x6_18 x7_20 false x9_20 x10_18 x12_18 x16_20 x17_20) = some (r1, r2, r3, r4, r5, r6, r7) := by rw [if_pos rfl] at H; exact H
                            clear H
                            have H := H1
                            clear H1
                            as_aux_lemma =>
                              have H' := Aside0.mk H
                              clear H
                              go_wp2
                              go_meet
                              case rel => exact ⟨_, (x17_20), (by first | rfl | (simp; done) | (simp [*]; done)), H', ⟨by have := HJ4.out; have := HJ7.out; have := HJ18.out; have := HJ20.out; first | omega | exact Nat.le_refl _⟩, by repeat (first | exact Drawn0.refl _ | apply Drawn0.step)⟩
                          · replace c44 := Bool.eq_false_iff.mpr c44
                            subst c44
                            have H1 : (strconv_readFloat.j8 kj20 a0 x2_20 0 x4_4 x5_20 x6_18 x7_20 false x9_20 x10_18 x12_18 x16_20 x15_20) = some (r1, r2, r3, r4, r5, r6, r7) := by rw [if_neg (show ¬ (false = true) by decide)] at H; exact H
                            clear H
                            have H := H1
                            clear H1
                            as_aux_lemma =>
                              have H' := Aside0.mk H
                              clear H
                              go_wp2
                              go_meet
                              case rel => exact ⟨_, (x15_20), (by first | rfl | (simp; done) | (simp [*]; done)), H', ⟨by have := HJ4.out; have := HJ7.out; have := HJ18.out; have := HJ20.out; first | omega | exact Nat.le_refl _⟩, by repeat (first | exact Drawn0.refl _ | apply Drawn0.step)⟩
                        case rest =>
                          clear HC43
                          try clear c1
                          try clear p1
                          try clear q1
                          try clear hx1
                          try clear c2
                          try clear c2b0
                          try clear c2b1
                          try clear p2
                          try clear q2
                          try clear hx2
                          try clear c3
                          try clear c3b0
                          try clear c3b1
                          try clear p3
                          try clear c4
                          try clear p4
                          try clear q4
                          try clear hx4
                          try clear qi4
                          try clear c6
                          try clear c6b0
                          try clear c6b1
                          try clear p6
                          try clear c7
                          try clear c7b0
                          try clear c7b1
                          try clear c9
                          try clear c9b0
                          try clear c10
                          try clear c10b0
                          try clear c11
                          try clear c11b0
                          try clear p12
                          try clear q12
                          try clear hx12
                          try clear c13
                          try clear c13b0
                          try clear c13b1
                          try clear c15
                          try clear c15b0
                          try clear c16
                          try clear c16b0
                          try clear p17
                          try clear q17
                          try clear hx17
                          try clear c18
                          try clear c20
                          try clear c22
                          try clear c22b0
                          try clear c23
                          try clear c23b0
                          try clear p24
                          try clear q24
                          try clear hx24
                          try clear c25
                          try clear c25b0
                          try clear c25b1
                          try clear c25b2
                          try clear c26
                          try clear c26b0
                          try clear c26b1
                          try clear c26b2
                          try clear c27
                          try clear c29
                          try clear c29b0
                          try clear c30
                          try clear c32
                          try clear c32b0
                          try clear c32b1
                          try clear c33
                          try clear c34
                          try clear c34b0
                          try clear c36
                          try clear c36b0
                          try clear c36b1
                          try clear c38
                          try clear c38b0
                          try clear c39
                          try clear c40
                          try clear c40b0
                          try clear c42
                          try clear c44
                          try clear p1
                          try clear p12
                          try clear p17
                          try clear p2
                          try clear p24
                          try clear p3
                          try clear p4
                          try clear p6
                          try clear q1
                          try clear q12
                          try clear q17
                          try clear q2
                          try clear q24
                          try clear q4
                          obtain ⟨kq, x17_42, rfl, HA, HJ42, ⟨mc42, rfl⟩⟩ := hcut
                          cases kq with
                          | zero => exact absurd HA.out (by simp [strconv_readFloat.j8])
                          | succ kj42 =>
                            have H := HA.out
                            clear HA
                            simp only [strconv_readFloat.j8] at H
                            have HC45 := Aside0.mk H
                            clear H
                            go_upto_if 145 with (fail)
                            (try (go_step3; (try (go_upto_if 145 with (fail)))))
                            go_cut [16, 17] (fun v16 v17 wc => ∃ (kq : Nat) (x16_44 : Int) (x17_44 : Int), v16 = .int .i64 x16_44 ∧ v17 = .int .i64 x17_44 ∧ Aside0 (strconv_readFloat.j9 kq a0 x2_20 0 x4_4 x5_20 x6_18 x7_20 false x9_20 x10_18 x12_18 x16_44 x17_44 = some (r1, r2, r3, r4, r5, r6, r7)) ∧ Aside0 (kq ≤ kj42) ∧ Drawn0 w wc)
                            case first =>
                              have H := HC45.out
                              clear HC45
                              by_cases c46 : x10_18 = 16
                              · rw [if_pos c46] at H
                                have c46b0 : (x10_18 == 16) = true := beq_iff_eq.mpr c46
                                have c46b1 : (x10_18 != 16) = false := bne_eq_false_iff_eq.mpr c46
                                clear c46
                                (first | rw [c46b0] | (simp only [i64_w, i32_w]; rw [c46b0]) | skip)
                                as_aux_lemma =>
                                  have H' := Aside0.mk H
                                  clear H
                                  go_wp2
                                  go_meet
                                  case rel => exact ⟨_, (wrap64 (x16_20 * 4)), (wrap64 (x17_42 * 4)), (by first | rfl | (simp; done) | (simp [*]; done)), (by first | rfl | (simp; done) | (simp [*]; done)), H', ⟨by have := HJ4.out; have := HJ7.out; have := HJ18.out; have := HJ20.out; have := HJ42.out; first | omega | exact Nat.le_refl _⟩, by repeat (first | exact Drawn0.refl _ | apply Drawn0.step)⟩
                              · rw [if_neg c46] at H
                                have c46b0 : (x10_18 == 16) = false := beq_eq_false_iff_ne.mpr c46
                                have c46b1 : (x10_18 != 16) = true := bne_iff_ne.mpr c46
                                (first | rw [c46b0] | (simp only [i64_w, i32_w]; rw [c46b0]) | skip)
                                as_aux_lemma =>
                                  have H' := Aside0.mk H
                                  clear H
                                  go_wp2
                                  go_meet
                                  case rel => exact ⟨_, (x16_20), (x17_42), (by first | rfl | (simp; done) | (simp [*]; done)), (by first | rfl | (simp; done) | (simp [*]; done)), H', ⟨by have := HJ4.out; have := HJ7.out; have := HJ18.out; have := HJ20.out; have := HJ42.out; first | omega | exact Nat.le_refl _⟩, by repeat (first | exact Drawn0.refl _ | apply Drawn0.step)⟩
                            case rest =>
                              clear HC45
                              try clear c1
                              try clear p1
                              try clear q1
                              try clear hx1
                              try clear c2
                              try clear c2b0
                              try clear c2b1
                              try clear p2
                              try clear q2
                              try clear hx2
                              try clear c3
                              try clear c3b0
                              try clear c3b1
                              try clear p3
                              try clear c4
                              try clear p4
                              try clear q4
                              try clear hx4
                              try clear qi4
                              try clear c6
                              try clear c6b0
                              try clear c6b1
                              try clear p6
                              try clear c7
                              try clear c7b0
                              try clear c7b1
                              try clear c9
                              try clear c9b0
                              try clear c10
                              try clear c10b0
                              try clear c11
                              try clear c11b0
                              try clear p12
                              try clear q12
                              try clear hx12
                              try clear c13
                              try clear c13b0
                              try clear c13b1
                              try clear c15
                              try clear c15b0
                              try clear c16
                              try clear c16b0
                              try clear p17
                              try clear q17
                              try clear hx17
                              try clear c18
                              try clear c20
                              try clear c22
                              try clear c22b0
                              try clear c23
                              try clear c23b0
                              try clear p24
                              try clear q24
                              try clear hx24
                              try clear c25
                              try clear c25b0
                              try clear c25b1
                              try clear c25b2
                              try clear c26
                              try clear c26b0
                              try clear c26b1
                              try clear c26b2
                              try clear c27
                              try clear c29
                              try clear c29b0
                              try clear c30
                              try clear c32
                              try clear c32b0
                              try clear c32b1
                              try clear c33
                              try clear c34
                              try clear c34b0
                              try clear c36
                              try clear c36b0
                              try clear c36b1
                              try clear c38
                              try clear c38b0
                              try clear c39
                              try clear c40
                              try clear c40b0
                              try clear c42
                              try clear c44
                              try clear c46
                              try clear c46b0
                              try clear c46b1
                              try clear p1
                              try clear p12
                              try clear p17
                              try clear p2
                              try clear p24
                              try clear p3
                              try clear p4
                              try clear p6
                              try clear q1
                              try clear q12
                              try clear q17
                              try clear q2
                              try clear q24
                              try clear q4
                              obtain ⟨kq, x16_44, x17_44, rfl, rfl, HA, HJ44, ⟨mc44, rfl⟩⟩ := hcut
                              cases kq with
                              | zero => exact absurd HA.out (by simp [strconv_readFloat.j9])
                              | succ kj44 =>
                                have H := HA.out
                                clear HA
                                simp only [strconv_readFloat.j9] at H
                                have HC47 := Aside0.mk H
                                clear H
                                go_upto_region 57 with (fail)
                                (try (go_step3; (try (go_upto_region 57 with (fail)))))
                                go_cut [161] (fun v161 wc => ∃ (kq : Nat) (x161_46 : Bool), v161 = .bool x161_46 ∧ Aside0 (strconv_readFloat.j10 kq a0 x2_20 0 x4_4 x5_20 x6_18 x7_20 false x9_20 x10_18 x16_44 x17_44 x161_46 = some (r1, r2, r3, r4, r5, r6, r7)) ∧ Aside0 (kq ≤ kj44) ∧ Drawn0 w wc)
                                case first =>
                                  have H := HC47.out
                                  clear HC47
                                  by_cases c48 : x7_20 < (a0.size : Int)
                                  · rw [if_pos c48] at H
                                    have c48b0 : decide (x7_20 < (a0.size : Int)) = true := decide_eq_true c48
                                    clear c48
                                    (first | rw [c48b0] | (simp only [i64_w, i32_w]; rw [c48b0]) | skip)
                                    by_cases c49 : 0 ≤ x7_20
                                    · rw [if_pos c49] at H
                                      have c49b0 : decide (0 ≤ x7_20) = true := decide_eq_true c49
                                      clear c49
                                      replace H := Option.bind_eq_some_iff.mp H
                                      obtain ⟨t126, A510, H⟩ := H
                                      replace H : (strconv_readFloat.j10 kj44 a0 x2_20 0 x4_4 x5_20 x6_18 x7_20 false x9_20 x10_18 x16_44 x17_44 (t126 == x12_18)) = some (r1, r2, r3, r4, r5, r6, r7) := H
                                      have A51 := Aside0.mk A510
                                      clear A510
                                      as_aux_lemma =>
                                        have H' := Aside0.mk H
                                        clear H
                                        have p50 : 0 ≤ (x7_20 : Int) := of_decide_eq_true (by first | (with_reducible assumption) | assumption)
                                        have q50 : x7_20 < (a0.size : Int) := of_decide_eq_true (by first | (with_reducible assumption) | assumption)
                                        have hx50 := bt_at a0 x7_20
                                        replace p50 := eq_true p50
                                        replace q50 := eq_true q50
                                        go_wp2_with (first | (go_at_call 46; (with_reducible refine (strconv_lower.calls (bt a0 x7_20) t126 _ A51.out).mono ?_); rintro e w' ⟨rfl, ⟨nd, rfl⟩⟩))
                                        go_meet
                                        case rel => exact ⟨_, ((t126 == x12_18)), (by first | rfl | (simp; done) | (simp [*]; done)), H', ⟨by have := HJ4.out; have := HJ7.out; have := HJ18.out; have := HJ20.out; have := HJ42.out; have := HJ44.out; first | omega | exact Nat.le_refl _⟩, by repeat (first | exact Drawn0.refl _ | apply Drawn0.step)⟩
                                    · rw [if_neg c49] at H
                                      exact absurd H (by simp)
                                  · rw [if_neg c48] at H
                                    have c48b0 : decide (x7_20 < (a0.size : Int)) = false := decide_eq_false c48
                                    clear c48
                                    (first | rw [c48b0] | (simp only [i64_w, i32_w]; rw [c48b0]) | skip)
                                    as_aux_lemma =>
                                      have H' := Aside0.mk H
                                      clear H
                                      go_wp2
                                      go_meet
                                      case rel => exact ⟨_, (false), (by first | rfl | (simp; done) | (simp [*]; done)), H', ⟨by have := HJ4.out; have := HJ7.out; have := HJ18.out; have := HJ20.out; have := HJ42.out; have := HJ44.out; first | omega | exact Nat.le_refl _⟩, by repeat (first | exact Drawn0.refl _ | apply Drawn0.step)⟩
                                case rest =>
                                  clear HC47
                                  try clear c1
                                  try clear p1
                                  try clear q1
                                  try clear hx1
                                  try clear c2
                                  try clear c2b0
                                  try clear c2b1
                                  try clear p2
                                  try clear q2
                                  try clear hx2
                                  try clear c3
                                  try clear c3b0
                                  try clear c3b1
                                  try clear p3
                                  try clear c4
                                  try clear p4
                                  try clear q4
                                  try clear hx4
                                  try clear qi4
                                  try clear p5
                                  try clear q5
                                  try clear hx5
                                  try clear c6
                                  try clear c6b0
                                  try clear c6b1
                                  try clear p6
                                  try clear c7
                                  try clear c7b0
                                  try clear c7b1
                                  try clear c9
                                  try clear c9b0
                                  try clear c10
                                  try clear c10b0
                                  try clear c11
                                  try clear c11b0
                                  try clear p12
                                  try clear q12
                                  try clear hx12
                                  try clear c13
                                  try clear c13b0
                                  try clear c13b1
                                  try clear c15
                                  try clear c15b0
                                  try clear c16
                                  try clear c16b0
                                  try clear p17
                                  try clear q17
                                  try clear hx17
                                  try clear c18
                                  try clear c20
                                  try clear c22
                                  try clear c22b0
                                  try clear c23
                                  try clear c23b0
                                  try clear p24
                                  try clear q24
                                  try clear hx24
                                  try clear c25
                                  try clear c25b0
                                  try clear c25b1
                                  try clear c25b2
                                  try clear c26
                                  try clear c26b0
                                  try clear c26b1
                                  try clear c26b2
                                  try clear c27
                                  try clear c29
                                  try clear c29b0
                                  try clear c30
                                  try clear c32
                                  try clear c32b0
                                  try clear c32b1
                                  try clear c33
                                  try clear c34
                                  try clear c34b0
                                  try clear c36
                                  try clear c36b0
                                  try clear c36b1
                                  try clear c38
                                  try clear c38b0
                                  try clear c39
                                  try clear c40
                                  try clear c40b0
                                  try clear c42
                                  try clear c44
                                  try clear c46
                                  try clear c46b0
                                  try clear c46b1
                                  try clear c48
                                  try clear c48b0
                                  try clear c49
                                  try clear c49b0
                                  try clear p50
                                  try clear q50
                                  try clear hx50
                                  try clear p1
                                  try clear p12
                                  try clear p17
                                  try clear p2
                                  try clear p24
                                  try clear p3
                                  try clear p4
                                  try clear p50
                                  try clear p6
                                  try clear q1
                                  try clear q12
                                  try clear q17
                                  try clear q2
                                  try clear q24
                                  try clear q4
                                  try clear q50
                                  obtain ⟨kq, x161_46, rfl, HA, HJ46, ⟨mc46, rfl⟩⟩ := hcut
                                  cases kq with
                                  | zero => exact absurd HA.out (by simp [strconv_readFloat.j10])
                                  | succ kj46 =>
                                    have H := HA.out
                                    clear HA
                                    simp only [strconv_readFloat.j10] at H
                                    by_cases c52 : x161_46 = true
                                    · subst c52
                                      have H1 : (none) = some (r1, r2, r3, r4, r5, r6, r7) := by rw [if_pos rfl] at H; exact H
                                      clear H
                                      have H := H1
                                      clear H1
                                      exact absurd H (by simp)
                                    · replace c52 := Bool.eq_false_iff.mpr c52
                                      subst c52
                                      have H1 : (if x10_18 = 16 then (some (x2_20, 0, x4_4, x5_20, x6_18, x7_20, false)) else (if x2_20 = 0 then (if x9_20 = true then (if 0 ≤ x7_20 then (if x7_20 ≤ (a0.size : Int) then (none) else (none)) else (none)) else (some (x2_20, 0, x4_4, x5_20, x6_18, x7_20, true))) else (if x9_20 = true then (if 0 ≤ x7_20 then (if x7_20 ≤ (a0.size : Int) then (none) else (none)) else (none)) else (some (x2_20, wrap64 (x17_44 - x16_44), x4_4, x5_20, x6_18, x7_20, true))))) = some (r1, r2, r3, r4, r5, r6, r7) := by rw [if_neg (show ¬ (false = true) by decide)] at H; exact H
                                      clear H
                                      have H := H1
                                      clear H1
                                      by_cases c53 : x10_18 = 16
                                      · rw [if_pos c53] at H
                                        have c53b0 : (x10_18 == 16) = true := beq_iff_eq.mpr c53
                                        have c53b1 : (x10_18 != 16) = false := bne_eq_false_iff_eq.mpr c53
                                        clear c53
                                        as_aux_lemma =>
                                          simp only [Option.some.injEq, Prod.mk.injEq] at H
                                          obtain ⟨rfl, rfl, rfl, rfl, rfl, rfl, rfl⟩ := H
                                          go_wp2
                                          (try rw [Exit.noGoto_ret])
                                          refine bodyPost_ret (results_list (rs := [.tmp 2, .tmp 3, .tmp 4, .tmp 5, .tmp 6, .tmp 7, .tmp 8]) rfl (by simp) (.tmp (.tmp (.tmp (.tmp (.tmp (.tmp (.tmp .nil)))))))) rfl ?_
                                          exact ⟨by first | rfl | (simp; done) | (simp [*]; done), by repeat (first | exact Drawn0.refl _ | apply Drawn0.step)⟩
                                      · rw [if_neg c53] at H
                                        have c53b0 : (x10_18 == 16) = false := beq_eq_false_iff_ne.mpr c53
                                        have c53b1 : (x10_18 != 16) = true := bne_iff_ne.mpr c53
                                        by_cases c54 : x2_20 = 0
                                        · rw [if_pos c54] at H
                                          have c54b0 : (x2_20 == 0) = true := beq_iff_eq.mpr c54
                                          have c54b1 : (x2_20 != 0) = false := bne_eq_false_iff_eq.mpr c54
                                          clear c54
                                          by_cases c55 : x9_20 = true
                                          · subst c55
                                            have H1 : (if 0 ≤ x7_20 then (if x7_20 ≤ (a0.size : Int) then (none) else (none)) else (none)) = some (r1, r2, r3, r4, r5, r6, r7) := by rw [if_pos rfl] at H; exact H
                                            clear H
                                            have H := H1
                                            clear H1
                                            by_cases c56 : 0 ≤ x7_20
                                            · rw [if_pos c56] at H
                                              have c56b0 := eq_true c56
                                              have c56b1 : decide (0 ≤ x7_20) = true := decide_eq_true c56
                                              clear c56
                                              by_cases c57 : x7_20 ≤ (a0.size : Int)
                                              · rw [if_pos c57] at H
                                                exact absurd H (by simp)
                                              · rw [if_neg c57] at H
                                                exact absurd H (by simp)
                                            · rw [if_neg c56] at H
                                              exact absurd H (by simp)
                                          · replace c55 := Bool.eq_false_iff.mpr c55
                                            subst c55
                                            have H1 : (some (x2_20, 0, x4_4, x5_20, x6_18, x7_20, true)) = some (r1, r2, r3, r4, r5, r6, r7) := by rw [if_neg (show ¬ (false = true) by decide)] at H; exact H
                                            clear H
                                            have H := H1
                                            clear H1
                                            as_aux_lemma =>
                                              simp only [Option.some.injEq, Prod.mk.injEq] at H
                                              obtain ⟨rfl, rfl, rfl, rfl, rfl, rfl, rfl⟩ := H
                                              go_wp2
                                              (try rw [Exit.noGoto_ret])
                                              refine bodyPost_ret (results_list (rs := [.tmp 2, .tmp 3, .tmp 4, .tmp 5, .tmp 6, .tmp 7, .tmp 8]) rfl (by simp) (.tmp (.tmp (.tmp (.tmp (.tmp (.tmp (.tmp .nil)))))))) rfl ?_
                                              exact ⟨by first | rfl | (simp; done) | (simp [*]; done), by repeat (first | exact Drawn0.refl _ | apply Drawn0.step)⟩
                                        · rw [if_neg c54] at H
                                          have c54b0 : (x2_20 == 0) = false := beq_eq_false_iff_ne.mpr c54
                                          have c54b1 : (x2_20 != 0) = true := bne_iff_ne.mpr c54
                                          by_cases c58 : x9_20 = true
                                          · subst c58
                                            have H1 : (if 0 ≤ x7_20 then (if x7_20 ≤ (a0.size : Int) then (none) else (none)) else (none)) = some (r1, r2, r3, r4, r5, r6, r7) := by rw [if_pos rfl] at H; exact H
                                            clear H
                                            have H := H1
                                            clear H1
                                            by_cases c59 : 0 ≤ x7_20
                                            · rw [if_pos c59] at H
                                              have c59b0 := eq_true c59
                                              have c59b1 : decide (0 ≤ x7_20) = true := decide_eq_true c59
                                              clear c59
                                              by_cases c60 : x7_20 ≤ (a0.size : Int)
                                              · rw [if_pos c60] at H
                                                exact absurd H (by simp)
                                              · rw [if_neg c60] at H
                                                exact absurd H (by simp)
                                            · rw [if_neg c59] at H
                                              exact absurd H (by simp)
                                          · replace c58 := Bool.eq_false_iff.mpr c58
                                            subst c58
                                            have H1 : (some (x2_20, wrap64 (x17_44 - x16_44), x4_4, x5_20, x6_18, x7_20, true)) = some (r1, r2, r3, r4, r5, r6, r7) := by rw [if_neg (show ¬ (false = true) by decide)] at H; exact H
                                            clear H
                                            have H := H1
                                            clear H1
                                            as_aux_lemma =>
                                              simp only [Option.some.injEq, Prod.mk.injEq] at H
                                              obtain ⟨rfl, rfl, rfl, rfl, rfl, rfl, rfl⟩ := H
                                              go_wp2
                                              (try rw [Exit.noGoto_ret])
                                              refine bodyPost_ret (results_list (rs := [.tmp 2, .tmp 3, .tmp 4, .tmp 5, .tmp 6, .tmp 7, .tmp 8]) rfl (by simp) (.tmp (.tmp (.tmp (.tmp (.tmp (.tmp (.tmp .nil)))))))) rfl ?_
                                              exact ⟨by first | rfl | (simp; done) | (simp [*]; done), by repeat (first | exact Drawn0.refl _ | apply Drawn0.step)⟩
                      · replace c42 := Bool.eq_false_iff.mpr c42
                        subst c42
                        have H1 : (some (x2_20, 0, x4_4, x5_20, x6_18, x7_20, false)) = some (r1, r2, r3, r4, r5, r6, r7) := by rw [if_neg (show ¬ (false = true) by decide)] at H; exact H
                        clear H
                        have H := H1
                        clear H1
                        as_aux_lemma =>
                          simp only [Option.some.injEq, Prod.mk.injEq] at H
                          obtain ⟨rfl, rfl, rfl, rfl, rfl, rfl, rfl⟩ := H
                          go_wp2
                          (try rw [Exit.noGoto_ret])
                          refine bodyPost_ret (results_list (rs := [.tmp 2, .tmp 3, .tmp 4, .tmp 5, .tmp 6, .tmp 7, .tmp 8]) rfl (by simp) (.tmp (.tmp (.tmp (.tmp (.tmp (.tmp (.tmp .nil)))))))) rfl ?_
                          exact ⟨by first | rfl | (simp; done) | (simp [*]; done), by repeat (first | exact Drawn0.refl _ | apply Drawn0.step)⟩
    · rw [if_neg c3] at H
      exact absurd H (by simp)

end Go.Proofs.YtllaepgbpmiglaaGreatDoor.QNum
