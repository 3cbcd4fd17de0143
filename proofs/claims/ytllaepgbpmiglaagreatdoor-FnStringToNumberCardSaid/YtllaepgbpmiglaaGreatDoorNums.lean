/- Hexadecimal digits and the number that they stand for, in plain words. -/
import Derived.Test.YtllaepgbpmiglaaGreatDoorWWords
namespace Go.Proofs.YtllaepgbpmiglaaGreatDoor
open Go.RowKit Go.Proofs.YtllaepgbpmiglaaGreatDoorW.PrintWords
/-- A byte with the bit set that makes letters small. -/
def low (c : Int) : Int := Go.bits .or .u8 c 32
/-- A hexadecimal digit's value, or -1. -/
def hexd (c : Int) : Int := if 48 ≤ c ∧ c ≤ 57 then c - 48 else if 97 ≤ low c ∧ low c ≤ 102 then low c - 87 else -1
theorem hexd_le (c : Int) : hexd c ≤ 15 := by unfold hexd; split <;> first | omega | (split <;> omega)
/-- The number of the first digits. -/
def hexVal (s : ByteArray) : Nat → Int
  | 0 => 0
  | i + 1 => 16 * hexVal s i + hexd (bt s i)
theorem hexVal_range (s : ByteArray) : ∀ i : Nat, (∀ j : Nat, j < i → 0 ≤ hexd (bt s j)) → 0 ≤ hexVal s i ∧ hexVal s i < (16 ^ i : Nat)
  | 0, _ => by simp [hexVal]
  | i + 1, h => by
    have ih := hexVal_range s i (fun j hj => h j (by omega))
    have h1 := h i (by omega)
    have h2 := hexd_le (bt s i)
    simp only [hexVal, Nat.pow_succ]
    omega
theorem hexVal_small (s : ByteArray) (i : Nat) (hi : i ≤ 13) (h : ∀ j : Nat, j < i → 0 ≤ hexd (bt s j)) : 0 ≤ hexVal s i ∧ hexVal s i < 4503599627370496 := by
  have h1 := hexVal_range s i h
  have h2 : 16 ^ i ≤ 16 ^ 13 := Nat.pow_le_pow_right (by omega) hi
  have h3 : (16 : Nat) ^ 13 = 4503599627370496 := by decide
  omega
end Go.Proofs.YtllaepgbpmiglaaGreatDoor
