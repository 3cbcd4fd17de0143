/- Small words for the walks: the bodyless functions that turn bits into numbers; make([]T, 0, c); string(rs). -/
import Derived.Test.YtllaepgbpmiglaaGreatDoorWMore
import Derived.Test.YtllaepgbpmiglaaGreatDoorProg
import Derived.Laws.Cover4
import Derived.Laws.Externs
import Derived.Laws.FloatArith
import Derived.Laws.RangeString
import Derived.Laws.RangeAny
import Derived.Laws.Runes
namespace Go.Proofs.YtllaepgbpmiglaaGreatDoor
open Go.RowKit Go.Proofs.YtllaepgbpmiglaaGreatDoorW.PrintWords
theorem ext7 (n : Int) (w : World) : (callFunc 7 #[.int .u64 n]).run Tryz.prog w = .ok (.value (.float .f64 n.toNat)) w := by
  rw [run_callFunc_extern (e := Extern.MathFloatBits.float64frombits) Tryz.func7 (by kernel_rfl) (by kernel_rfl) (by kernel_rfl) (by kernel_rfl)]; rfl
theorem ext58 (n : Int) (w : World) : (callFunc 58 #[.int .u64 n]).run Tryz.prog w = .ok (.value (.float .f64 n.toNat)) w := by
  rw [run_callFunc_extern (e := Extern.MathFloatBits.float64frombits) Tryz.func58 (by kernel_rfl) (by kernel_rfl) (by kernel_rfl) (by kernel_rfl)]; rfl
theorem ext14 (n : Nat) (w : World) : (callFunc 14 #[.float .f64 n]).run Tryz.prog w = .ok (.value (.int .u64 n)) w := by
  rw [run_callFunc_extern (e := Extern.MathFloatBits.float64bits) Tryz.func14 (by kernel_rfl) (by kernel_rfl) (by kernel_rfl) (by kernel_rfl)]; rfl

/-- The cutset of the trim that parseNumber calls. -/
def trimSet : ByteArray := { data := ([9, 10, 11, 12, 13, 32, 194, 160, 225, 154, 128, 225, 160, 142, 226, 128, 128, 226, 128, 129, 226, 128, 130, 226, 128, 131, 226, 128, 132, 226, 128, 133].append [226, 128, 134, 226, 128, 135, 226, 128, 136, 226, 128, 137, 226, 128, 138, 226, 128, 168, 226, 128, 169, 226, 128, 175, 226, 129, 159, 227, 128, 128, 239, 187, 191]).toArray }
/-- Is a character among those that stand in a text from a place on? -/
def inSet (s : ByteArray) (r : Int) : Nat → Nat → Bool
  | 0, _ => false
  | f + 1, pos => if pos < s.size then ((Utf8.decode s pos).1 == r) || inSet s r f (pos + (Utf8.decode s pos).2) else false
theorem width_pos (s : ByteArray) (pos : Nat) (h : pos < s.size) : 1 ≤ (Utf8.decode s pos).2 := by
  by_cases ha : (s[pos]'h).toNat < 128
  · rw [decode_ascii s pos h ha]
    exact Nat.le_refl _
  · exact (decode_high s pos h (by omega)).2
theorem inSet_end (s : ByteArray) (r : Int) (b pos : Nat) (h : ¬ pos < s.size) : inSet s r b pos = false := by
  cases b with
  | zero => rfl
  | succ b => simp [inSet, h]
set_option maxRecDepth 1000000 in
theorem zzIn_any (s : ByteArray) (r : Int) (w : World) :
    Calls Tryz.prog 31 #[.string s, .int .i32 r] w fun e w' => e = .returned (.bool (inSet s r s.size 0)) ∧ Below w.heap.size w w' := by
  go_enter Tryz.func31, Tryz.ntmps31
  go_wp2
  go_loopw [4] (fun v w' => ∃ (pos b : Nat), w' = w.iter s pos ∧ v = .bool false ∧ Aside0 (inSet s r b pos = inSet s r s.size 0) ∧ s.size ≤ pos + b) (fun _ w' => s.size - w'.iterPos w.heap.size)
  case atStart => exact ⟨0, s.size, rfl, rfl, ⟨rfl⟩, by omega⟩
  case round =>
    obtain ⟨pos, b, rfl, rfl, hc, hb⟩ := hrel
    by_cases hp : pos < s.size
    · have hnx : ∀ ty, (Instr.next (.pointer (some ⟨w.heap.size, 0, none⟩)) true ty).run Tryz.prog (w.iter s pos) = _ := fun ty => run_next_any w s pos ty hp
      have hwd := width_pos s pos hp
      by_cases hr : (Utf8.decode s pos).1 = r
      · have hrb : ((Utf8.decode s pos).1 == r) = true := beq_iff_eq.2 hr
        have he : inSet s r s.size 0 = true := by
          rw [← hc.out]
          cases b with
          | zero => omega
          | succ b => simp [inSet, hp, hrb]
        have HE := Aside0.mk he
        clear hr he
        go_wp2
        go_ret
        exact ⟨by rw [HE.out]; rfl, (Below.refl _ _).alloc (Nat.le_refl _) _⟩
      · have hrb : ((Utf8.decode s pos).1 == r) = false := beq_eq_false_iff_ne.2 hr
        have he : ∃ b', b = b' + 1 ∧ inSet s r b' (pos + (Utf8.decode s pos).2) = inSet s r s.size 0 := by
          cases b with
          | zero => omega
          | succ b => exact ⟨b, rfl, by rw [← hc.out]; simp [inSet, hp, hrb]⟩
        have HE := Aside0.mk he
        clear hr he
        go_wp2
        go_roundw
        case rel =>
          obtain ⟨b', h1, h2⟩ := HE.out
          exact ⟨pos + (Utf8.decode s pos).2, b', rfl, rfl, ⟨h2⟩, by omega⟩
        case measure =>
          simp
          omega
    · have hnx : ∀ ty, (Instr.next (.pointer (some ⟨w.heap.size, 0, none⟩)) true ty).run Tryz.prog (w.iter s pos) = _ := fun ty => run_next_end w s pos ty hp
      have he : inSet s r s.size 0 = false := by rw [← hc.out]; exact inSet_end s r b pos hp
      have HE := Aside0.mk he
      clear he
      go_wp2
      go_ret
      exact ⟨by rw [HE.out]; rfl, (Below.refl _ _).alloc (Nat.le_refl _) _⟩
/-- zzIn at that cutset and a character of ASCII. -/
def otto_zzIn.f (a0 : ByteArray) (a1 : Int) : Option Bool := if a0 = trimSet then (if 0 ≤ a1 ∧ a1 < 128 then some (decide (a1 = 32 ∨ (9 ≤ a1 ∧ a1 ≤ 13))) else none) else none
theorem inSet_all : ((List.range 128).all fun r => inSet trimSet (r : Int) trimSet.size 0 == decide ((r : Int) = 32 ∨ (9 ≤ (r : Int) ∧ (r : Int) ≤ 13))) = true := by kernel_rfl
theorem otto_zzIn.calls (a0 : ByteArray) (a1 : Int) (r : Bool) (w : World) (h : otto_zzIn.f a0 a1 = some r) :
    Calls Tryz.prog 31 #[.string a0, .int .i32 a1] w fun e w' => e = .returned (.bool r) ∧ Below w.heap.size w w' := by
  unfold otto_zzIn.f at h
  split at h
  · rename_i h0
    split at h
    · rename_i h1
      have hr := List.all_eq_true.1 inSet_all a1.toNat (List.mem_range.2 (by omega))
      have e1 : ((a1.toNat : Nat) : Int) = a1 := by omega
      rw [e1, beq_iff_eq] at hr
      have e2 := Option.some.inj h
      rw [← e2, ← hr, h0]
      exact zzIn_any _ _ w
    · cases h
  · cases h
/-- The last character of a text, if it is one of ASCII. -/
def utf8_DecodeLastRuneInString.f (a0 : ByteArray) : Option (Int × Int) := if 0 < a0.size ∧ a0.size ≤ 140737488355328 then (if bt a0 ((a0.size : Int) - 1) < 128 then some (bt a0 ((a0.size : Int) - 1), 1) else none) else none
theorem utf8_DecodeLastRuneInString.calls (a0 : ByteArray) (r1 : Int) (r2 : Int) (w : World) (h : utf8_DecodeLastRuneInString.f a0 = some (r1, r2)) :
    Calls Tryz.prog 30 #[.string a0] w fun e w' => e = .returned (.tuple #[.int .i32 r1, .int .i64 r2]) ∧ Below w.heap.size w w' := by
  unfold utf8_DecodeLastRuneInString.f at h
  split at h
  · rename_i h0
    split at h
    · rename_i h1
      simp only [Option.some.injEq, Prod.mk.injEq] at h
      obtain ⟨rfl, rfl⟩ := h
      have b := bt_range a0 ((a0.size : Int) - 1)
      have hlt : a0.size - 1 < a0.size := by omega
      have e : (((a0[a0.size - 1]'hlt).toNat : Nat) : Int) = bt a0 ((a0.size : Int) - 1) := by
        unfold bt
        have e1 : ((a0.size : Int) - 1).toNat = a0.size - 1 := by omega
        simp only [e1, hlt, dite_true]
      have e2 : Aside0 (wrap32 (((a0[a0.size - 1]'hlt).toNat : Nat) : Int) = bt a0 ((a0.size : Int) - 1)) := ⟨by rw [e]; unfold wrap32; omega⟩
      have hc : wrap32 (((a0[a0.size - 1]'hlt).toNat : Nat) : Int) < 128 := by rw [e2.out]; exact h1
      have p1 : ((a0.size : Int) == 0) = false := beq_eq_false_iff_ne.2 (by omega)
      have p2 : (0 : Int) ≤ (a0.size : Int) - 1 := by omega
      have p3 : (a0.size : Int) - 1 < (a0.size : Int) := by omega
      have s1 := h0.1
      have s2 := h0.2
      clear h0 e h1 b
      go_enter Tryz.func30, Tryz.ntmps30
      go_wp2
      go_ret2
      refine ⟨?_, Below.refl _ _⟩
      show Ending.returned (.tuple #[.int .i32 (wrap32 (((a0[a0.size - 1]'hlt).toNat : Nat) : Int)), .int .i64 1]) = _
      rw [e2.out]
    · cases h
  · cases h
/-- The walk writes '0 ≥ len(s)' as 's is the empty text'. -/
theorem empty_yes {s : ByteArray} (h : 0 ≥ (s.size : Int)) : decide (s = ByteArray.empty) = true := by
  refine decide_eq_true ?_
  apply ByteArray.ext
  exact Array.eq_empty_of_size_eq_zero (show s.size = 0 by omega)
theorem empty_no {s : ByteArray} (h : ¬ 0 ≥ (s.size : Int)) : decide (s = ByteArray.empty) = false := by
  refine decide_eq_false ?_
  rintro rfl
  exact h (by decide)
end Go.Proofs.YtllaepgbpmiglaaGreatDoor
