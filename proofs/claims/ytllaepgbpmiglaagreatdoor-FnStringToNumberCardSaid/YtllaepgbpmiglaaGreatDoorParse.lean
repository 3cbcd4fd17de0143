/- Walks: parseNumber, way by way. Conditions: what the trim, the test for a point and strconv's readers come to. Written by a small program of this session (genparse.py). -/
import Derived.Test.YtllaepgbpmiglaaGreatDoorWays
import Derived.Test.YtllaepgbpmiglaaGreatDoorPint
import Derived.Test.YtllaepgbpmiglaaGreatDoorIs
namespace Go.Proofs.YtllaepgbpmiglaaGreatDoor
open Go.RowKit Go.Proofs.YtllaepgbpmiglaaGreatDoorW.PrintWords Go.Proofs.YtllaepgbpmiglaaGreatDoor.QNum
theorem nan_calls (w : World) : Calls Tryz.prog 15 #[] w fun e w' => e = .returned (.float .f64 9221120237041090561) ∧ Drawn0 w w' := math_NaN.calls _ w rfl
/-- What strconv.ParseFloat hands back where it reads a number, in every later world. -/
abbrev FloatIs (t : ByteArray) (w : World) (v : Nat) : Prop :=
  ∀ W, Below w.heap.size w W → Calls Tryz.prog 20 #[.string t, .int .i64 64] W fun e w' => e = .returned (.tuple #[.float .f64 v, .nilIface]) ∧ Below W.heap.size W w'
/-- .. and where it reads none. -/
abbrev FloatNone (t : ByteArray) (w : World) (a : Addr) : Prop :=
  ∀ W, Below w.heap.size w W → Calls Tryz.prog 20 #[.string t, .int .i64 64] W fun e w' => ∃ N fn, e = .returned (.tuple #[.float .f64 0, .iface 56 (.pointer (some ⟨N, 0, none⟩))]) ∧ W.heap.size ≤ N ∧ w'.heap[N]? = some (.cells #[.string fn, .string t, .iface 111 (.pointer (some a))] 78 (0, 0)) ∧ Below W.heap.size W w'
/-- The two sentinels lie apart. -/
structure Sents (w : World) (a b : Addr) : Prop where
  hv : w.cell? ⟨1, 0, none⟩ = some (.iface 111 (.pointer (some b)))
  hne : a ≠ b
  ha : ∃ c t, w.heap[a.block]? = some (.cells c t (0, 0))
  hb : ∃ c t, w.heap[b.block]? = some (.cells c t (0, 0))
  h1 : 1 < w.heap.size
  la : a.block < w.heap.size
  lb : b.block < w.heap.size
theorem is_false (N : Nat) (a b : Addr) (x0 x1 : Value) (w W : World) (hs : Sents w a b) (hW : Below w.heap.size w W) (h1 : W.heap[N]? = some (.cells #[x0, x1, .iface 111 (.pointer (some a))] 78 (0, 0))) :
    Calls Tryz.prog 21 #[.iface 56 (.pointer (some ⟨N, 0, none⟩)), .iface 111 (.pointer (some b))] W fun e w' => e = .returned (.bool false) ∧ w' = W := by
  obtain ⟨ca, ta, ha⟩ := hs.ha
  obtain ⟨cb, tb, hb⟩ := hs.hb
  exact is_num_other N a b ca cb ta tb x0 x1 W h1 hs.hne ((hW.block _ hs.la).trans ha) ((hW.block _ hs.lb).trans hb)
set_option maxRecDepth 1000000 in
theorem pn_empty (k : Nat) (s t : ByteArray) (w : World) (hz : otto_zzTrim.f k s trimSet = some t) (ht : t = ⟨#[]⟩) :
    Calls Tryz.prog 17 #[.string s] w fun e w' => e = .returned (.float .f64 0) ∧ Below w.heap.size w w' := by
  subst ht
  go_enter Tryz.func17, Tryz.ntmps17
  go_wp2_with (go_at_call 18; refine (otto_zzTrim.calls k s trimSet _ _ hz).mono ?_; rintro e w1 ⟨rfl, hb1⟩)
  go_ret
  exact ⟨rfl, hb1⟩
set_option maxRecDepth 1000000 in
theorem pn_float_dot (k k2 : Nat) (s t : ByteArray) (v : Nat) (w : World) (hz : otto_zzTrim.f k s trimSet = some t) (ht : 0 < t.size) (hh : otto_zzHas.f k2 t 46 = some true) (hf : FloatIs t w v) :
    Calls Tryz.prog 17 #[.string s] w fun e w' => e = .returned (.float .f64 v) ∧ Below w.heap.size w w' := by
  have hem := empty_no (s := t) (by omega)
  have hem2 : t.toList.isEmpty = false := toList_some (by omega)
  replace hf := Aside0.mk hf
  go_enter Tryz.func17, Tryz.ntmps17
  go_wp2_with (first | (go_at_call 18; (refine (otto_zzTrim.calls k s trimSet t _ hz).mono ?_; rintro e w1 ⟨rfl, hb1⟩)) | (go_at_call 19; (refine (otto_zzHas.calls k2 t 46 true _ hh).mono ?_; rintro e w2 ⟨rfl, hd2⟩; have hb2 := hb1.trans (hd2.below.mono hb1.size))) | (go_at_call 20; (refine (hf.out _ ?_).mono ?_; (first | exact hb2 | exact pw_below_drewN hb2 _); rintro e w3 ⟨rfl, hb3⟩)))
  go_ret
  exact ⟨rfl, by first | exact hb2.trans (hb3.mono hb2.size) | exact (pw_below_drewN hb2 _).trans (hb3.mono (pw_below_drewN hb2 _).size)⟩
set_option maxRecDepth 1000000 in
theorem pn_none_dot (k k2 : Nat) (s t : ByteArray) (a b : Addr) (w : World) (hs : Sents w a b) (hz : otto_zzTrim.f k s trimSet = some t) (ht : 0 < t.size) (hh : otto_zzHas.f k2 t 46 = some true) (hf : FloatNone t w a) :
    Calls Tryz.prog 17 #[.string s] w fun e w' => e = .returned (.float .f64 9221120237041090561) ∧ Below w.heap.size w w' := by
  have hem := empty_no (s := t) (by omega)
  have hem2 : t.toList.isEmpty = false := toList_some (by omega)
  replace hf := Aside0.mk hf
  go_enter Tryz.func17, Tryz.ntmps17
  go_wp2_with (first | (go_at_call 18; (refine (otto_zzTrim.calls k s trimSet t _ hz).mono ?_; rintro e w1 ⟨rfl, hb1⟩)) | (go_at_call 19; (refine (otto_zzHas.calls k2 t 46 true _ hh).mono ?_; rintro e w2 ⟨rfl, hd2⟩; have hb2 := hb1.trans (hd2.below.mono hb1.size))) | (go_at_call 20; (refine (hf.out _ ?_).mono ?_; (first | exact hb2 | exact pw_below_drewN hb2 _); rintro e w3 ⟨N, fn, rfl, hN, hcell, hb3⟩; have hb4 : Below w.heap.size w w3 := (by first | exact hb2.trans (hb3.mono hb2.size) | exact (pw_below_drewN hb2 _).trans (hb3.mono (pw_below_drewN hb2 _).size)); have hg := (hb4.cell (p := ⟨1, 0, none⟩) hs.h1).trans hs.hv)) | (go_at_call 21; (refine (is_false N a b (.string fn) (.string t) w _ hs ?_ ?_).mono ?_; (first | exact hb4 | exact pw_below_drewN hb4 _); exact hcell; rintro e w4 ⟨rfl, rfl⟩)) | (go_at_call 15; (refine (nan_calls _).mono ?_; rintro e w5 ⟨rfl, ⟨nd5, rfl⟩⟩)))
  go_ret
  exact ⟨rfl, by repeat (first | exact hb4 | apply pw_below_drewN)⟩
set_option maxRecDepth 1000000 in
theorem pn_float_one (k k2 : Nat) (s t : ByteArray) (v : Nat) (w : World) (hz : otto_zzTrim.f k s trimSet = some t) (ht : 0 < t.size) (hh : otto_zzHas.f k2 t 46 = some false) (h1 : ¬ 1 < t.size) (hf : FloatIs t w v) :
    Calls Tryz.prog 17 #[.string s] w fun e w' => e = .returned (.float .f64 v) ∧ Below w.heap.size w w' := by
  have hem := empty_no (s := t) (by omega)
  have hem2 : t.toList.isEmpty = false := toList_some (by omega)
  have z1 : decide (1 < (t.size : Int)) = false := decide_eq_false (by omega)
  have z1n : (1 < t.size) = False := eq_false h1
  have z1d : decide (1 < t.size) = false := decide_eq_false h1
  replace hf := Aside0.mk hf
  go_enter Tryz.func17, Tryz.ntmps17
  go_wp2_with (first | (go_at_call 18; (refine (otto_zzTrim.calls k s trimSet t _ hz).mono ?_; rintro e w1 ⟨rfl, hb1⟩)) | (go_at_call 19; (refine (otto_zzHas.calls k2 t 46 false _ hh).mono ?_; rintro e w2 ⟨rfl, hd2⟩; have hb2 := hb1.trans (hd2.below.mono hb1.size))) | (go_at_call 20; (refine (hf.out _ ?_).mono ?_; (first | exact hb2 | exact pw_below_drewN hb2 _); rintro e w3 ⟨rfl, hb3⟩)))
  go_ret
  exact ⟨rfl, by first | exact hb2.trans (hb3.mono hb2.size) | exact (pw_below_drewN hb2 _).trans (hb3.mono (pw_below_drewN hb2 _).size)⟩
set_option maxRecDepth 1000000 in
theorem pn_none_one (k k2 : Nat) (s t : ByteArray) (a b : Addr) (w : World) (hs : Sents w a b) (hz : otto_zzTrim.f k s trimSet = some t) (ht : 0 < t.size) (hh : otto_zzHas.f k2 t 46 = some false) (h1 : ¬ 1 < t.size) (hf : FloatNone t w a) :
    Calls Tryz.prog 17 #[.string s] w fun e w' => e = .returned (.float .f64 9221120237041090561) ∧ Below w.heap.size w w' := by
  have hem := empty_no (s := t) (by omega)
  have hem2 : t.toList.isEmpty = false := toList_some (by omega)
  have z1 : decide (1 < (t.size : Int)) = false := decide_eq_false (by omega)
  have z1n : (1 < t.size) = False := eq_false h1
  have z1d : decide (1 < t.size) = false := decide_eq_false h1
  replace hf := Aside0.mk hf
  go_enter Tryz.func17, Tryz.ntmps17
  go_wp2_with (first | (go_at_call 18; (refine (otto_zzTrim.calls k s trimSet t _ hz).mono ?_; rintro e w1 ⟨rfl, hb1⟩)) | (go_at_call 19; (refine (otto_zzHas.calls k2 t 46 false _ hh).mono ?_; rintro e w2 ⟨rfl, hd2⟩; have hb2 := hb1.trans (hd2.below.mono hb1.size))) | (go_at_call 20; (refine (hf.out _ ?_).mono ?_; (first | exact hb2 | exact pw_below_drewN hb2 _); rintro e w3 ⟨N, fn, rfl, hN, hcell, hb3⟩; have hb4 : Below w.heap.size w w3 := (by first | exact hb2.trans (hb3.mono hb2.size) | exact (pw_below_drewN hb2 _).trans (hb3.mono (pw_below_drewN hb2 _).size)); have hg := (hb4.cell (p := ⟨1, 0, none⟩) hs.h1).trans hs.hv)) | (go_at_call 21; (refine (is_false N a b (.string fn) (.string t) w _ hs ?_ ?_).mono ?_; (first | exact hb4 | exact pw_below_drewN hb4 _); exact hcell; rintro e w4 ⟨rfl, rfl⟩)) | (go_at_call 15; (refine (nan_calls _).mono ?_; rintro e w5 ⟨rfl, ⟨nd5, rfl⟩⟩)))
  go_ret
  exact ⟨rfl, by repeat (first | exact hb4 | apply pw_below_drewN)⟩
set_option maxRecDepth 1000000 in
theorem pn_float_non (k k2 : Nat) (s t : ByteArray) (v : Nat) (w : World) (hz : otto_zzTrim.f k s trimSet = some t) (ht : 0 < t.size) (hh : otto_zzHas.f k2 t 46 = some false) (h1 : 1 < t.size) (h48 : bt t 0 ≠ 48) (hf : FloatIs t w v) :
    Calls Tryz.prog 17 #[.string s] w fun e w' => e = .returned (.float .f64 v) ∧ Below w.heap.size w w' := by
  have hem := empty_no (s := t) (by omega)
  have hem2 : t.toList.isEmpty = false := toList_some (by omega)
  have z1 : decide (1 < (t.size : Int)) = true := decide_eq_true (by omega)
  have z1n : (1 < t.size) = True := eq_true h1
  have z1d : decide (1 < t.size) = true := decide_eq_true h1
  have z0 : (0 < t.size) = True := eq_true (by omega)
  have hb0 : ∀ h : 0 < t.size, ((t[0]'h).toNat : Int) = bt t 0 := fun h => bt_at t 0 h
  have e0 : (bt t 0 == 48) = false := beq_eq_false_iff_ne.2 h48
  replace hf := Aside0.mk hf
  go_enter Tryz.func17, Tryz.ntmps17
  go_wp2_with (first | (go_at_call 18; (refine (otto_zzTrim.calls k s trimSet t _ hz).mono ?_; rintro e w1 ⟨rfl, hb1⟩)) | (go_at_call 19; (refine (otto_zzHas.calls k2 t 46 false _ hh).mono ?_; rintro e w2 ⟨rfl, hd2⟩; have hb2 := hb1.trans (hd2.below.mono hb1.size))) | (go_at_call 20; (refine (hf.out _ ?_).mono ?_; (first | exact hb2 | exact pw_below_drewN hb2 _); rintro e w3 ⟨rfl, hb3⟩)))
  go_ret
  exact ⟨rfl, by first | exact hb2.trans (hb3.mono hb2.size) | exact (pw_below_drewN hb2 _).trans (hb3.mono (pw_below_drewN hb2 _).size)⟩
set_option maxRecDepth 1000000 in
theorem pn_none_non (k k2 : Nat) (s t : ByteArray) (a b : Addr) (w : World) (hs : Sents w a b) (hz : otto_zzTrim.f k s trimSet = some t) (ht : 0 < t.size) (hh : otto_zzHas.f k2 t 46 = some false) (h1 : 1 < t.size) (h48 : bt t 0 ≠ 48) (hf : FloatNone t w a) :
    Calls Tryz.prog 17 #[.string s] w fun e w' => e = .returned (.float .f64 9221120237041090561) ∧ Below w.heap.size w w' := by
  have hem := empty_no (s := t) (by omega)
  have hem2 : t.toList.isEmpty = false := toList_some (by omega)
  have z1 : decide (1 < (t.size : Int)) = true := decide_eq_true (by omega)
  have z1n : (1 < t.size) = True := eq_true h1
  have z1d : decide (1 < t.size) = true := decide_eq_true h1
  have z0 : (0 < t.size) = True := eq_true (by omega)
  have hb0 : ∀ h : 0 < t.size, ((t[0]'h).toNat : Int) = bt t 0 := fun h => bt_at t 0 h
  have e0 : (bt t 0 == 48) = false := beq_eq_false_iff_ne.2 h48
  replace hf := Aside0.mk hf
  go_enter Tryz.func17, Tryz.ntmps17
  go_wp2_with (first | (go_at_call 18; (refine (otto_zzTrim.calls k s trimSet t _ hz).mono ?_; rintro e w1 ⟨rfl, hb1⟩)) | (go_at_call 19; (refine (otto_zzHas.calls k2 t 46 false _ hh).mono ?_; rintro e w2 ⟨rfl, hd2⟩; have hb2 := hb1.trans (hd2.below.mono hb1.size))) | (go_at_call 20; (refine (hf.out _ ?_).mono ?_; (first | exact hb2 | exact pw_below_drewN hb2 _); rintro e w3 ⟨N, fn, rfl, hN, hcell, hb3⟩; have hb4 : Below w.heap.size w w3 := (by first | exact hb2.trans (hb3.mono hb2.size) | exact (pw_below_drewN hb2 _).trans (hb3.mono (pw_below_drewN hb2 _).size)); have hg := (hb4.cell (p := ⟨1, 0, none⟩) hs.h1).trans hs.hv)) | (go_at_call 21; (refine (is_false N a b (.string fn) (.string t) w _ hs ?_ ?_).mono ?_; (first | exact hb4 | exact pw_below_drewN hb4 _); exact hcell; rintro e w4 ⟨rfl, rfl⟩)) | (go_at_call 15; (refine (nan_calls _).mono ?_; rintro e w5 ⟨rfl, ⟨nd5, rfl⟩⟩)))
  go_ret
  exact ⟨rfl, by repeat (first | exact hb4 | apply pw_below_drewN)⟩
set_option maxRecDepth 1000000 in
theorem pn_float_not (k k2 : Nat) (s t : ByteArray) (v : Nat) (w : World) (hz : otto_zzTrim.f k s trimSet = some t) (ht : 0 < t.size) (hh : otto_zzHas.f k2 t 46 = some false) (h1 : 1 < t.size) (h48 : bt t 0 = 48) (hx : bt t 1 ≠ 120) (hX : bt t 1 ≠ 88) (hf : FloatIs t w v) :
    Calls Tryz.prog 17 #[.string s] w fun e w' => e = .returned (.float .f64 v) ∧ Below w.heap.size w w' := by
  have hem := empty_no (s := t) (by omega)
  have hem2 : t.toList.isEmpty = false := toList_some (by omega)
  have z1 : decide (1 < (t.size : Int)) = true := decide_eq_true (by omega)
  have z1n : (1 < t.size) = True := eq_true h1
  have z1d : decide (1 < t.size) = true := decide_eq_true h1
  have z0 : (0 < t.size) = True := eq_true (by omega)
  have hb0 : ∀ h : 0 < t.size, ((t[0]'h).toNat : Int) = 48 := fun h => (bt_at t 0 h).trans h48
  have hb1 : ∀ h : 1 < t.size, ((t[1]'h).toNat : Int) = bt t 1 := fun h => bt_at t 1 h
  have e1 : (bt t 1 == 120) = false := beq_eq_false_iff_ne.2 hx
  have e2 : (bt t 1 == 88) = false := beq_eq_false_iff_ne.2 hX
  replace hf := Aside0.mk hf
  go_enter Tryz.func17, Tryz.ntmps17
  go_wp2_with (first | (go_at_call 18; (refine (otto_zzTrim.calls k s trimSet t _ hz).mono ?_; rintro e w1 ⟨rfl, hb1⟩)) | (go_at_call 19; (refine (otto_zzHas.calls k2 t 46 false _ hh).mono ?_; rintro e w2 ⟨rfl, hd2⟩; have hb2 := hb1.trans (hd2.below.mono hb1.size))) | (go_at_call 20; (refine (hf.out _ ?_).mono ?_; (first | exact hb2 | exact pw_below_drewN hb2 _); rintro e w3 ⟨rfl, hb3⟩)))
  go_ret
  exact ⟨rfl, by first | exact hb2.trans (hb3.mono hb2.size) | exact (pw_below_drewN hb2 _).trans (hb3.mono (pw_below_drewN hb2 _).size)⟩
set_option maxRecDepth 1000000 in
theorem pn_none_not (k k2 : Nat) (s t : ByteArray) (a b : Addr) (w : World) (hs : Sents w a b) (hz : otto_zzTrim.f k s trimSet = some t) (ht : 0 < t.size) (hh : otto_zzHas.f k2 t 46 = some false) (h1 : 1 < t.size) (h48 : bt t 0 = 48) (hx : bt t 1 ≠ 120) (hX : bt t 1 ≠ 88) (hf : FloatNone t w a) :
    Calls Tryz.prog 17 #[.string s] w fun e w' => e = .returned (.float .f64 9221120237041090561) ∧ Below w.heap.size w w' := by
  have hem := empty_no (s := t) (by omega)
  have hem2 : t.toList.isEmpty = false := toList_some (by omega)
  have z1 : decide (1 < (t.size : Int)) = true := decide_eq_true (by omega)
  have z1n : (1 < t.size) = True := eq_true h1
  have z1d : decide (1 < t.size) = true := decide_eq_true h1
  have z0 : (0 < t.size) = True := eq_true (by omega)
  have hb0 : ∀ h : 0 < t.size, ((t[0]'h).toNat : Int) = 48 := fun h => (bt_at t 0 h).trans h48
  have hb1 : ∀ h : 1 < t.size, ((t[1]'h).toNat : Int) = bt t 1 := fun h => bt_at t 1 h
  have e1 : (bt t 1 == 120) = false := beq_eq_false_iff_ne.2 hx
  have e2 : (bt t 1 == 88) = false := beq_eq_false_iff_ne.2 hX
  replace hf := Aside0.mk hf
  go_enter Tryz.func17, Tryz.ntmps17
  go_wp2_with (first | (go_at_call 18; (refine (otto_zzTrim.calls k s trimSet t _ hz).mono ?_; rintro e w1 ⟨rfl, hb1⟩)) | (go_at_call 19; (refine (otto_zzHas.calls k2 t 46 false _ hh).mono ?_; rintro e w2 ⟨rfl, hd2⟩; have hb2 := hb1.trans (hd2.below.mono hb1.size))) | (go_at_call 20; (refine (hf.out _ ?_).mono ?_; (first | exact hb2 | exact pw_below_drewN hb2 _); rintro e w3 ⟨N, fn, rfl, hN, hcell, hb3⟩; have hb4 : Below w.heap.size w w3 := (by first | exact hb2.trans (hb3.mono hb2.size) | exact (pw_below_drewN hb2 _).trans (hb3.mono (pw_below_drewN hb2 _).size)); have hg := (hb4.cell (p := ⟨1, 0, none⟩) hs.h1).trans hs.hv)) | (go_at_call 21; (refine (is_false N a b (.string fn) (.string t) w _ hs ?_ ?_).mono ?_; (first | exact hb4 | exact pw_below_drewN hb4 _); exact hcell; rintro e w4 ⟨rfl, rfl⟩)) | (go_at_call 15; (refine (nan_calls _).mono ?_; rintro e w5 ⟨rfl, ⟨nd5, rfl⟩⟩)))
  go_ret
  exact ⟨rfl, by repeat (first | exact hb4 | apply pw_below_drewN)⟩
set_option maxRecDepth 1000000 in
theorem pn_int_hexx (k k2 : Nat) (s t : ByteArray) (n : Int) (w : World) (hz : otto_zzTrim.f k s trimSet = some t) (ht : 0 < t.size) (hh : otto_zzHas.f k2 t 46 = some false) (h1 : 1 < t.size) (h48 : bt t 0 = 48) (hx : bt t 1 = 120)
    (hf : ∀ W, Calls Tryz.prog 22 #[.string t, .int .i64 0, .int .i64 64] W fun e w' => e = .returned (.tuple #[.int .i64 n, .nilIface]) ∧ Below W.heap.size W w') :
    Calls Tryz.prog 17 #[.string s] w fun e w' => e = .returned (.float .f64 (floatOfInt .f64 n)) ∧ Below w.heap.size w w' := by
  have hem := empty_no (s := t) (by omega)
  have hem2 : t.toList.isEmpty = false := toList_some (by omega)
  have z1 : decide (1 < (t.size : Int)) = true := decide_eq_true (by omega)
  have z1n : (1 < t.size) = True := eq_true h1
  have z1d : decide (1 < t.size) = true := decide_eq_true h1
  have z0 : (0 < t.size) = True := eq_true (by omega)
  have hb0 : ∀ h : 0 < t.size, ((t[0]'h).toNat : Int) = 48 := fun h => (bt_at t 0 h).trans h48
  have hb1 : ∀ h : 1 < t.size, ((t[1]'h).toNat : Int) = 120 := fun h => (bt_at t 1 h).trans hx
  replace hf := Aside0.mk hf
  go_enter Tryz.func17, Tryz.ntmps17
  go_wp2_with (first | (go_at_call 18; (refine (otto_zzTrim.calls k s trimSet t _ hz).mono ?_; rintro e w1 ⟨rfl, hb1⟩)) | (go_at_call 19; (refine (otto_zzHas.calls k2 t 46 false _ hh).mono ?_; rintro e w2 ⟨rfl, hd2⟩; have hb2 := hb1.trans (hd2.below.mono hb1.size))) | (go_at_call 22; (refine (hf.out _).mono ?_; rintro e w3 ⟨rfl, hb3⟩)))
  go_ret
  exact ⟨rfl, by first | exact hb2.trans (hb3.mono hb2.size) | exact (pw_below_drewN hb2 _).trans (hb3.mono (pw_below_drewN hb2 _).size)⟩
set_option maxRecDepth 1000000 in
theorem pn_intnone_hexx (k k2 : Nat) (s t : ByteArray) (w : World) (hz : otto_zzTrim.f k s trimSet = some t) (ht : 0 < t.size) (hh : otto_zzHas.f k2 t 46 = some false) (h1 : 1 < t.size) (h48 : bt t 0 = 48) (hx : bt t 1 = 120)
    (hf : ∀ W, Below w.heap.size w W → Calls Tryz.prog 22 #[.string t, .int .i64 0, .int .i64 64] W fun e w' => ∃ N : Nat, e = .returned (.tuple #[.int .i64 0, .iface 56 (.pointer (some ⟨N, 0, none⟩))]) ∧ Below W.heap.size W w') :
    Calls Tryz.prog 17 #[.string s] w fun e w' => e = .returned (.float .f64 9221120237041090561) ∧ Below w.heap.size w w' := by
  have hem := empty_no (s := t) (by omega)
  have hem2 : t.toList.isEmpty = false := toList_some (by omega)
  have z1 : decide (1 < (t.size : Int)) = true := decide_eq_true (by omega)
  have z1n : (1 < t.size) = True := eq_true h1
  have z1d : decide (1 < t.size) = true := decide_eq_true h1
  have z0 : (0 < t.size) = True := eq_true (by omega)
  have hb0 : ∀ h : 0 < t.size, ((t[0]'h).toNat : Int) = 48 := fun h => (bt_at t 0 h).trans h48
  have hb1 : ∀ h : 1 < t.size, ((t[1]'h).toNat : Int) = 120 := fun h => (bt_at t 1 h).trans hx
  replace hf := Aside0.mk hf
  go_enter Tryz.func17, Tryz.ntmps17
  go_wp2_with (first | (go_at_call 18; (refine (otto_zzTrim.calls k s trimSet t _ hz).mono ?_; rintro e w1 ⟨rfl, hb1⟩)) | (go_at_call 19; (refine (otto_zzHas.calls k2 t 46 false _ hh).mono ?_; rintro e w2 ⟨rfl, hd2⟩; have hb2 := hb1.trans (hd2.below.mono hb1.size))) | (go_at_call 22; (refine (hf.out _ ?_).mono ?_; (first | exact hb2 | exact pw_below_drewN hb2 _); rintro e w3 ⟨N, rfl, hb3⟩)) | (go_at_call 15; (refine (nan_calls _).mono ?_; rintro e w5 ⟨rfl, ⟨nd5, rfl⟩⟩)))
  go_ret
  exact ⟨rfl, by repeat (first | exact hb2.trans (hb3.mono hb2.size) | exact (pw_below_drewN hb2 _).trans (hb3.mono (pw_below_drewN hb2 _).size) | apply pw_below_drewN)⟩
set_option maxRecDepth 1000000 in
theorem pn_int_hexX (k k2 : Nat) (s t : ByteArray) (n : Int) (w : World) (hz : otto_zzTrim.f k s trimSet = some t) (ht : 0 < t.size) (hh : otto_zzHas.f k2 t 46 = some false) (h1 : 1 < t.size) (h48 : bt t 0 = 48) (hx : bt t 1 = 88)
    (hf : ∀ W, Calls Tryz.prog 22 #[.string t, .int .i64 0, .int .i64 64] W fun e w' => e = .returned (.tuple #[.int .i64 n, .nilIface]) ∧ Below W.heap.size W w') :
    Calls Tryz.prog 17 #[.string s] w fun e w' => e = .returned (.float .f64 (floatOfInt .f64 n)) ∧ Below w.heap.size w w' := by
  have hem := empty_no (s := t) (by omega)
  have hem2 : t.toList.isEmpty = false := toList_some (by omega)
  have z1 : decide (1 < (t.size : Int)) = true := decide_eq_true (by omega)
  have z1n : (1 < t.size) = True := eq_true h1
  have z1d : decide (1 < t.size) = true := decide_eq_true h1
  have z0 : (0 < t.size) = True := eq_true (by omega)
  have hb0 : ∀ h : 0 < t.size, ((t[0]'h).toNat : Int) = 48 := fun h => (bt_at t 0 h).trans h48
  have hb1 : ∀ h : 1 < t.size, ((t[1]'h).toNat : Int) = 88 := fun h => (bt_at t 1 h).trans hx
  replace hf := Aside0.mk hf
  go_enter Tryz.func17, Tryz.ntmps17
  go_wp2_with (first | (go_at_call 18; (refine (otto_zzTrim.calls k s trimSet t _ hz).mono ?_; rintro e w1 ⟨rfl, hb1⟩)) | (go_at_call 19; (refine (otto_zzHas.calls k2 t 46 false _ hh).mono ?_; rintro e w2 ⟨rfl, hd2⟩; have hb2 := hb1.trans (hd2.below.mono hb1.size))) | (go_at_call 22; (refine (hf.out _).mono ?_; rintro e w3 ⟨rfl, hb3⟩)))
  go_ret
  exact ⟨rfl, by first | exact hb2.trans (hb3.mono hb2.size) | exact (pw_below_drewN hb2 _).trans (hb3.mono (pw_below_drewN hb2 _).size)⟩
set_option maxRecDepth 1000000 in
theorem pn_intnone_hexX (k k2 : Nat) (s t : ByteArray) (w : World) (hz : otto_zzTrim.f k s trimSet = some t) (ht : 0 < t.size) (hh : otto_zzHas.f k2 t 46 = some false) (h1 : 1 < t.size) (h48 : bt t 0 = 48) (hx : bt t 1 = 88)
    (hf : ∀ W, Below w.heap.size w W → Calls Tryz.prog 22 #[.string t, .int .i64 0, .int .i64 64] W fun e w' => ∃ N : Nat, e = .returned (.tuple #[.int .i64 0, .iface 56 (.pointer (some ⟨N, 0, none⟩))]) ∧ Below W.heap.size W w') :
    Calls Tryz.prog 17 #[.string s] w fun e w' => e = .returned (.float .f64 9221120237041090561) ∧ Below w.heap.size w w' := by
  have hem := empty_no (s := t) (by omega)
  have hem2 : t.toList.isEmpty = false := toList_some (by omega)
  have z1 : decide (1 < (t.size : Int)) = true := decide_eq_true (by omega)
  have z1n : (1 < t.size) = True := eq_true h1
  have z1d : decide (1 < t.size) = true := decide_eq_true h1
  have z0 : (0 < t.size) = True := eq_true (by omega)
  have hb0 : ∀ h : 0 < t.size, ((t[0]'h).toNat : Int) = 48 := fun h => (bt_at t 0 h).trans h48
  have hb1 : ∀ h : 1 < t.size, ((t[1]'h).toNat : Int) = 88 := fun h => (bt_at t 1 h).trans hx
  replace hf := Aside0.mk hf
  go_enter Tryz.func17, Tryz.ntmps17
  go_wp2_with (first | (go_at_call 18; (refine (otto_zzTrim.calls k s trimSet t _ hz).mono ?_; rintro e w1 ⟨rfl, hb1⟩)) | (go_at_call 19; (refine (otto_zzHas.calls k2 t 46 false _ hh).mono ?_; rintro e w2 ⟨rfl, hd2⟩; have hb2 := hb1.trans (hd2.below.mono hb1.size))) | (go_at_call 22; (refine (hf.out _ ?_).mono ?_; (first | exact hb2 | exact pw_below_drewN hb2 _); rintro e w3 ⟨N, rfl, hb3⟩)) | (go_at_call 15; (refine (nan_calls _).mono ?_; rintro e w5 ⟨rfl, ⟨nd5, rfl⟩⟩)))
  go_ret
  exact ⟨rfl, by repeat (first | exact hb2.trans (hb3.mono hb2.size) | exact (pw_below_drewN hb2 _).trans (hb3.mono (pw_below_drewN hb2 _).size) | apply pw_below_drewN)⟩
end Go.Proofs.YtllaepgbpmiglaaGreatDoor
