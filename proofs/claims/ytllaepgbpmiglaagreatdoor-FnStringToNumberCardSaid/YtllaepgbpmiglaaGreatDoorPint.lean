/- Walks: strconv.ParseInt(s, 0, 64) where s begins with a nought. Conditions: what ParseUint comes to. -/
import Derived.Test.YtllaepgbpmiglaaGreatDoorPuint
import Derived.Test.YtllaepgbpmiglaaGreatDoorShelf
import Derived.LaidEql
import Derived.RowKitTokens
namespace Go.Proofs.YtllaepgbpmiglaaGreatDoor
open Go.RowKit Go.Proofs.YtllaepgbpmiglaaGreatDoorW.PrintWords
set_option maxRecDepth 1000000 in
theorem inner_int_good (s : ByteArray) (n : Int) (w : World) (hs : 0 < s.size) (h48 : bt s 0 = 48) (h0 : 0 ≤ n) (h1 : n < 4503599627370496)
    (h : Calls Tryz.prog 38 #[.string s, .int .i64 0, .int .i64 64] w fun e w' => e = .returned (.tuple #[.int .u64 n, .nilIface]) ∧ Below w.heap.size w w') :
    Calls Tryz.prog 29 #[.string s, .int .i64 0, .int .i64 64] w fun e w' => e = .returned (.tuple #[.int .i64 n, .nilIface]) ∧ Below w.heap.size w w' := by
  have hb0 : ∀ h : 0 < s.size, ((s[0]'h).toNat : Int) = 48 := fun h => (bt_at s 0 h).trans h48
  have hem := empty_no (s := s) (by omega)
  have hem2 : s.toList.isEmpty = false := toList_some (by omega)
  have z0 : (0 < s.size) = True := eq_true (by omega)
  have z0i : (0 < (s.size : Int)) = True := eq_true (by omega)
  have hge : decide (9223372036854775808 ≤ n) = false := decide_eq_false (by omega)
  have hnw : IntKind.i64.wrap n = n := by unfold IntKind.wrap; simp [IntKind.signed, IntKind.bits]; omega
  go_enter Tryz.func29, Tryz.ntmps29
  go_wp2_with (go_at_call 38; refine h.mono ?_; rintro e w1 ⟨rfl, hb1⟩)
  go_ret2
  exact ⟨rfl, hb1⟩
theorem neq_errs (w : World) : (binOp .neq 38 (.iface 55 (.int .i64 2)) (.iface 55 (.int .i64 1))).run Tryz.prog w = .ok (.bool true) w := by kernel_rfl
set_option maxRecDepth 1000000 in
theorem inner_int_bad (s : ByteArray) (w : World) (hs : 0 < s.size) (h48 : bt s 0 = 48)
    (h : Calls Tryz.prog 38 #[.string s, .int .i64 0, .int .i64 64] w fun e w' => e = .returned (.tuple #[.int .u64 0, .iface 55 (.int .i64 2)]) ∧ Below w.heap.size w w') :
    Calls Tryz.prog 29 #[.string s, .int .i64 0, .int .i64 64] w fun e w' => e = .returned (.tuple #[.int .i64 0, .iface 55 (.int .i64 2)]) ∧ Below w.heap.size w w' := by
  have hb0 : ∀ h : 0 < s.size, ((s[0]'h).toNat : Int) = 48 := fun h => (bt_at s 0 h).trans h48
  have hem := empty_no (s := s) (by omega)
  have hem2 : s.toList.isEmpty = false := toList_some (by omega)
  have z0 : (0 < s.size) = True := eq_true (by omega)
  have z0i : (0 < (s.size : Int)) = True := eq_true (by omega)
  have hne := neq_errs
  go_enter Tryz.func29, Tryz.ntmps29
  go_wp2_with (go_at_call 38; refine h.mono ?_; rintro e w1 ⟨rfl, hb1⟩)
  go_ret2
  exact ⟨rfl, hb1⟩
/-- strconv.ParseInt, where the inner one has an answer. -/
theorem parse_int (s : ByteArray) (n : Int) (w : World) (h : Calls Tryz.prog 29 #[.string s, .int .i64 0, .int .i64 64] w fun e w' => e = .returned (.tuple #[.int .i64 n, .nilIface]) ∧ Below w.heap.size w w') :
    Calls Tryz.prog 22 #[.string s, .int .i64 0, .int .i64 64] w fun e w' => e = .returned (.tuple #[.int .i64 n, .nilIface]) ∧ Below w.heap.size w w' := by
  go_enter Tryz.func22, Tryz.ntmps22
  go_wp2_with (go_at_call 29; refine h.mono ?_; rintro e w1 ⟨rfl, hb1⟩)
  go_ret2
  exact ⟨rfl, hb1⟩
/-- strconv.ParseInt, where the inner one says ErrSyntax: a *NumError. -/
theorem parse_int_err (s : ByteArray) (ev : Value) (w : World) (hlim : s.size ≤ 281474976710656) (hv : w.cell? ⟨2, 0, none⟩ = some ev) (hev : ev = .nilIface ∨ ∃ te pe, ev = .iface te pe)
    (hb : 2 < w.heap.size) (h : Calls Tryz.prog 29 #[.string s, .int .i64 0, .int .i64 64] w fun e w' => e = .returned (.tuple #[.int .i64 0, .iface 55 (.int .i64 2)]) ∧ Below w.heap.size w w') :
    Calls Tryz.prog 22 #[.string s, .int .i64 0, .int .i64 64] w fun e w' => ∃ N : Nat, e = .returned (.tuple #[.int .i64 0, .iface 56 (.pointer (some ⟨N, 0, none⟩))]) ∧ Below w.heap.size w w' := by
  go_enter Tryz.func22, Tryz.ntmps22
  go_wp2_with (first | (go_at_call 29; refine h.mono ?_; rintro e w1 ⟨rfl, hb1⟩) | (go_at_call 26; refine (Tryz.strconv_toError_syntax _ s _ _ ev _ hlim ((hb1.cell hb).trans hv) hev).mono ?_; rintro e w2 ⟨N, rfl, hN, hcell, hb2⟩))
  go_ret2
  exact ⟨N, rfl, hb1.trans (hb2.mono hb1.size)⟩
end Go.Proofs.YtllaepgbpmiglaaGreatDoor
