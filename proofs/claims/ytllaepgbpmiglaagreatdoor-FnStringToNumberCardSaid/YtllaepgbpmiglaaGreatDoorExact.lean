/- Walks: a whole number below 2^52, divided by a power of ten up to 10^22, as strconv's exact way has it. Conditions: the cells of the tables that it reads. -/
import Derived.Test.YtllaepgbpmiglaaGreatDoorCapWords
import Derived.WalkLawsBesides
import Derived.Handy
import Derived.Outline
namespace Go.Proofs.YtllaepgbpmiglaaGreatDoor
open Go.RowKit Go.Proofs.YtllaepgbpmiglaaGreatDoorW.PrintWords
/-- A float's bits with the sign turned where 'neg'. -/
def sgn (neg : Bool) (b : Nat) : Nat := if neg = true then Op.negFloat .f64 b else b
theorem sgn_true (b : Nat) : sgn true b = Op.negFloat .f64 b := by unfold sgn; rw [if_pos rfl]
theorem sgn_false (b : Nat) : sgn false b = b := by unfold sgn; rw [if_neg Bool.false_ne_true]
theorem unary_neg_float (k : FloatKind) (b : Nat) : Op.unary .neg (.float k b) = pure (.float k (Op.negFloat k b)) := rfl
set_option maxRecDepth 100000 in
theorem exact_whole_pos (m : Int) (w : World) (h0 : 0 ≤ m) (h1 : m < 4503599627370496) (hinfo : w.cell? ⟨7, 0, none⟩ = some (.int .u64 52)) :
    Calls Tryz.prog 59 #[.int .u64 m, .int .i64 0, .bool false] w fun e w' => e = .returned (.tuple #[.float .f64 (floatOfInt .f64 m), .bool true]) ∧ w = w' := by
  go_enter Tryz.func59, Tryz.ntmps59
  go_wp2
  go_ret2
  exact ⟨rfl, rfl⟩
set_option maxRecDepth 100000 in
theorem exact_whole_neg (m : Int) (w : World) (h0 : 0 ≤ m) (h1 : m < 4503599627370496) (hinfo : w.cell? ⟨7, 0, none⟩ = some (.int .u64 52)) :
    Calls Tryz.prog 59 #[.int .u64 m, .int .i64 0, .bool true] w fun e w' => e = .returned (.tuple #[.float .f64 (Op.negFloat .f64 (floatOfInt .f64 m)), .bool true]) ∧ w = w' := by
  have hneg := unary_neg_float .f64 (floatOfInt .f64 m)
  go_enter Tryz.func59, Tryz.ntmps59
  go_wp2
  go_ret2
  exact ⟨rfl, rfl⟩
set_option maxRecDepth 100000 in
theorem exact_quo_pos (m : Int) (k : Int) (pa : Addr) (cap : Nat) (p r : Nat) (w : World) (h0 : 0 ≤ m) (h1 : m < 4503599627370496) (hinfo : w.cell? ⟨7, 0, none⟩ = some (.int .u64 52))
    (hk : 1 ≤ k) (hk2 : k ≤ 22) (htab : w.cell? ⟨10, 0, none⟩ = some (.slice (some pa) 23 cap)) (hpow : w.cell? (pa.add k.toNat) = some (.float .f64 p)) (hq : floatBits .quo .f64 (floatOfInt .f64 m) p = some r) :
    Calls Tryz.prog 59 #[.int .u64 m, .int .i64 (-k), .bool false] w fun e w' => e = .returned (.tuple #[.float .f64 r, .bool true]) ∧ w = w' := by
  have hfl := fun W_ => run_float_arith (P := Tryz.prog) W_ .quo 23 .f64 _ p r hq
  go_enter Tryz.func59, Tryz.ntmps59
  go_wp2
  go_ret2
  exact ⟨rfl, rfl⟩
set_option maxRecDepth 100000 in
theorem exact_quo_neg_of (m : Int) (k : Int) (pa : Addr) (cap : Nat) (p r b : Nat) (w : World) (h0 : 0 ≤ m) (h1 : m < 4503599627370496) (hinfo : w.cell? ⟨7, 0, none⟩ = some (.int .u64 52))
    (hk : 1 ≤ k) (hk2 : k ≤ 22) (htab : w.cell? ⟨10, 0, none⟩ = some (.slice (some pa) 23 cap)) (hpow : w.cell? (pa.add k.toNat) = some (.float .f64 p)) (hneg : Op.unary .neg (.float .f64 (floatOfInt .f64 m)) = pure (.float .f64 b))
    (hq : floatBits .quo .f64 b p = some r) :
    Calls Tryz.prog 59 #[.int .u64 m, .int .i64 (-k), .bool true] w fun e w' => e = .returned (.tuple #[.float .f64 r, .bool true]) ∧ w = w' := by
  have hfl := fun W_ => run_float_arith (P := Tryz.prog) W_ .quo 23 .f64 _ p r hq
  go_enter Tryz.func59, Tryz.ntmps59
  go_wp2
  go_ret2
  exact ⟨rfl, rfl⟩
theorem exact_quo_neg (m : Int) (k : Int) (pa : Addr) (cap : Nat) (p r b : Nat) (w : World) (h0 : 0 ≤ m) (h1 : m < 4503599627370496) (hinfo : w.cell? ⟨7, 0, none⟩ = some (.int .u64 52))
    (hk : 1 ≤ k) (hk2 : k ≤ 22) (htab : w.cell? ⟨10, 0, none⟩ = some (.slice (some pa) 23 cap)) (hpow : w.cell? (pa.add k.toNat) = some (.float .f64 p)) (hb : Op.negFloat .f64 (floatOfInt .f64 m) = b) (hq : floatBits .quo .f64 b p = some r) :
    Calls Tryz.prog 59 #[.int .u64 m, .int .i64 (-k), .bool true] w fun e w' => e = .returned (.tuple #[.float .f64 r, .bool true]) ∧ w = w' := by
  have hneg := unary_neg_float .f64 (floatOfInt .f64 m)
  rw [hb] at hneg
  exact exact_quo_neg_of m k pa cap p r b w h0 h1 hinfo hk hk2 htab hpow hneg hq
/-- A whole number over a power of ten, with its sign: what the number's float is. -/
def Over (w : World) (pa : Addr) (m k : Int) (neg : Bool) (r : Nat) : Prop :=
  if k = 0 then r = sgn neg (floatOfInt .f64 m) else ∃ p, w.cell? (pa.add k.toNat) = some (.float .f64 p) ∧ floatBits .quo .f64 (sgn neg (floatOfInt .f64 m)) p = some r
theorem exact_any (m k : Int) (neg : Bool) (pa : Addr) (cap r : Nat) (w : World) (h0 : 0 ≤ m) (h1 : m < 4503599627370496) (hinfo : w.cell? ⟨7, 0, none⟩ = some (.int .u64 52))
    (hk : 0 ≤ k) (hk2 : k ≤ 22) (htab : w.cell? ⟨10, 0, none⟩ = some (.slice (some pa) 23 cap)) (ho : Over w pa m k neg r) :
    Calls Tryz.prog 59 #[.int .u64 m, .int .i64 (-k), .bool neg] w fun e w' => e = .returned (.tuple #[.float .f64 r, .bool true]) ∧ w = w' := by
  unfold Over at ho
  by_cases hz : k = 0
  · subst hz
    rw [if_pos rfl] at ho
    rw [ho]
    cases neg
    · rw [sgn_false]
      exact exact_whole_pos m w h0 h1 hinfo
    · rw [sgn_true]
      exact exact_whole_neg m w h0 h1 hinfo
  · rw [if_neg hz] at ho
    obtain ⟨p, hp, hq⟩ := ho
    cases neg
    · rw [sgn_false] at hq
      exact exact_quo_pos m k pa cap p r w h0 h1 hinfo (by omega) hk2 htab hp hq
    · rw [sgn_true] at hq
      exact exact_quo_neg m k pa cap p r _ w h0 h1 hinfo (by omega) hk2 htab hp rfl hq
end Go.Proofs.YtllaepgbpmiglaaGreatDoor
