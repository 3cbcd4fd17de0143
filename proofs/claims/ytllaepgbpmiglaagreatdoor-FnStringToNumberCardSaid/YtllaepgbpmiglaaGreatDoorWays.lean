/- Walks: how strconv.ParseFloat hands up what it has read. Conditions: what the two readers below it come to. -/
import Derived.Test.YtllaepgbpmiglaaGreatDoorExact
import Derived.Test.YtllaepgbpmiglaaGreatDoorShelf
import Derived.Test.YtllaepgbpmiglaaGreatDoorQNumx
namespace Go.Proofs.YtllaepgbpmiglaaGreatDoor
open Go.RowKit Go.Proofs.YtllaepgbpmiglaaGreatDoorW.PrintWords Go.Proofs.YtllaepgbpmiglaaGreatDoor.QNum
theorem over_below {w W : World} {pa : Addr} {m k : Int} {neg : Bool} {r : Nat} (hpa : pa.block < w.heap.size) (hW : Below w.heap.size w W) (h : Over w pa m k neg r) : Over W pa m k neg r := by
  unfold Over at h ⊢
  by_cases hz : k = 0
  · rw [if_pos hz] at h ⊢
    exact h
  · rw [if_neg hz] at h ⊢
    obtain ⟨p, hp, hq⟩ := h
    exact ⟨p, (hW.cell (by rw [add_block]; exact hpa)).trans hp, hq⟩
/-- What a call of the readers of floats hands back, and that nothing old is touched. -/
abbrev Reads (s : ByteArray) (w : World) (v : Nat) (n : Int) (er : Value) : Prop :=
  Calls Tryz.prog 42 #[.string s] w fun e w' => e = .returned (.tuple #[.float .f64 v, .int .i64 n, er]) ∧ Below w.heap.size w w'
theorem bool2_calls (b : Bool) (w : World) : Calls Tryz.prog 57 #[.bool b] w fun e w' => e = .returned (.int .u64 (if b = true then 1 else 0)) ∧ Drawn0 w w' := strconv_bool2_uint64.calls b _ w (by cases b <;> rfl)
set_option maxRecDepth 100000 in
theorem reads_special (k : Nat) (s : ByteArray) (v : Nat) (n : Int) (w : World) (hs : strconv_special.f k s = some (v, n, true)) : Reads s w v n .nilIface := by
  go_enter Tryz.func42, Tryz.ntmps42
  go_wp2_with (go_at_call 48; refine (strconv_special.calls k s v n true _ hs).mono ?_; rintro e w1 ⟨rfl, hb1⟩)
  go_ret3
  exact ⟨rfl, hb1⟩
set_option maxRecDepth 100000 in
theorem reads_err (k k' : Nat) (s : ByteArray) (v : Nat) (n m x n' : Int) (neg tr hx : Bool) (w : World) (hs : strconv_special.f k s = some (v, n', false)) (hr : strconv_readFloat.f k' s = some (m, x, neg, tr, hx, n, false)) :
    Reads s w 0 n (.iface 55 (.int .i64 2)) := by
  go_enter Tryz.func42, Tryz.ntmps42
  go_wp2_with (first | (go_at_call 48; refine (strconv_special.calls k s v n' false _ hs).mono ?_; rintro e w1 ⟨rfl, hb1⟩) | (go_at_call 49; refine (strconv_readFloat.calls k' s m x neg tr hx n false _ hr).mono ?_; rintro e w2 ⟨rfl, hb2⟩))
  go_ret3
  exact ⟨rfl, hb1.trans ((hb2.below).mono hb1.size)⟩
set_option maxRecDepth 100000 in
theorem reads_zero (k k' : Nat) (s : ByteArray) (v : Nat) (n x n' : Int) (neg : Bool) (w : World) (hs : strconv_special.f k s = some (v, n', false)) (hr : strconv_readFloat.f k' s = some (0, x, neg, false, false, n, true))
    (h6 : 6 < w.heap.size) (hopt : w.cell? ⟨6, 0, none⟩ = some (.bool true)) :
    Reads s w (if neg = true then 9223372036854775808 else 0) n .nilIface := by
  have hx58 := ext58
  cases neg
  · go_enter Tryz.func42, Tryz.ntmps42
    go_wp2_with (first | (go_at_call 48; refine (strconv_special.calls k s v n' false _ hs).mono ?_; rintro e w1 ⟨rfl, hb1⟩) | (go_at_call 49; (refine (strconv_readFloat.calls k' s 0 x _ false false n true _ hr).mono ?_; rintro e w2 ⟨rfl, hb2⟩; have hopt2 := ((hb1.trans ((hb2.below).mono hb1.size)).cell (p := ⟨6, 0, none⟩) h6).trans hopt)) | (go_at_call 57; refine (bool2_calls _ _).mono ?_; rintro e w3 ⟨rfl, ⟨nd3, rfl⟩⟩))
    go_ret3
    exact ⟨rfl, pw_below_drewN (hb1.trans ((hb2.below).mono hb1.size)) _⟩
  · go_enter Tryz.func42, Tryz.ntmps42
    go_wp2_with (first | (go_at_call 48; refine (strconv_special.calls k s v n' false _ hs).mono ?_; rintro e w1 ⟨rfl, hb1⟩) | (go_at_call 49; (refine (strconv_readFloat.calls k' s 0 x _ false false n true _ hr).mono ?_; rintro e w2 ⟨rfl, hb2⟩; have hopt2 := ((hb1.trans ((hb2.below).mono hb1.size)).cell (p := ⟨6, 0, none⟩) h6).trans hopt)) | (go_at_call 57; refine (bool2_calls _ _).mono ?_; rintro e w3 ⟨rfl, ⟨nd3, rfl⟩⟩))
    go_ret3
    exact ⟨rfl, pw_below_drewN (hb1.trans ((hb2.below).mono hb1.size)) _⟩
set_option maxRecDepth 100000 in
theorem reads_exact (k k' : Nat) (s : ByteArray) (v : Nat) (n m e10 n' : Int) (neg : Bool) (pa : Addr) (cap r : Nat) (w : World) (hs : strconv_special.f k s = some (v, n', false)) (hr : strconv_readFloat.f k' s = some (m, -e10, neg, false, false, n, true))
    (h0 : 1 ≤ m) (h1 : m < 4503599627370496) (hk : 0 ≤ e10) (hk2 : e10 ≤ 22) (h10 : 10 < w.heap.size) (hpa : pa.block < w.heap.size)
    (hopt : w.cell? ⟨6, 0, none⟩ = some (.bool true)) (hinfo : w.cell? ⟨7, 0, none⟩ = some (.int .u64 52)) (htab : w.cell? ⟨10, 0, none⟩ = some (.slice (some pa) 23 cap)) (ho : Over w pa m e10 neg r) :
    Reads s w r n .nilIface := by
  have hex : ∀ W, Below w.heap.size w W → Calls Tryz.prog 59 #[.int .u64 m, .int .i64 (-e10), .bool neg] W fun e w' => e = .returned (.tuple #[.float .f64 r, .bool true]) ∧ W = w' := fun W hW =>
    exact_any m e10 neg pa cap r W (by omega) h1 ((hW.cell (p := ⟨7, 0, none⟩) (Nat.lt_trans (by decide) h10)).trans hinfo) hk hk2 ((hW.cell (p := ⟨10, 0, none⟩) h10).trans htab) (over_below hpa hW ho)
  replace hex := Aside0.mk hex
  replace ho := Aside0.mk ho
  have hz : (m == 0) = false := beq_eq_false_iff_ne.2 (by omega)
  have hg : decide (310 < -e10) = false := decide_eq_false (by omega)
  have hl : decide (-e10 < -345) = false := decide_eq_false (by omega)
  have hl2 : (345 < e10) = False := eq_false (by omega)
  have hl3 : decide (345 < e10) = false := decide_eq_false (by omega)
  go_enter Tryz.func42, Tryz.ntmps42
  go_wp2_with (first | (go_at_call 48; (refine (strconv_special.calls k s v n' false _ hs).mono ?_; rintro e w1 ⟨rfl, hb1⟩)) | (go_at_call 49; (refine (strconv_readFloat.calls k' s m _ neg false false n true _ hr).mono ?_; rintro e w2 ⟨rfl, hb2⟩; have hb3 := hb1.trans ((hb2.below).mono hb1.size); have hopt2 := (hb3.cell (p := ⟨6, 0, none⟩) (Nat.lt_trans (by decide) h10)).trans hopt)) | (go_at_call 57; (refine (bool2_calls _ _).mono ?_; rintro e w3 ⟨rfl, ⟨nd3, rfl⟩⟩)) | (go_at_call 59; (refine (hex.out _ (pw_below_drewN hb3 _)).mono ?_; rintro e w4 ⟨rfl, rfl⟩)))
  all_goals (go_ret3; exact ⟨rfl, pw_below_drewN hb3 _⟩)
set_option maxRecDepth 100000 in
theorem prefix_of (s : ByteArray) (v : Nat) (n : Int) (er : Value) (w : World) (h : Reads s w v n er) :
    Calls Tryz.prog 33 #[.string s, .int .i64 64] w fun e w' => e = .returned (.tuple #[.float .f64 v, .int .i64 n, er]) ∧ Below w.heap.size w w' := by
  go_enter Tryz.func33, Tryz.ntmps33
  go_wp2_with (go_at_call 42; refine h.mono ?_; rintro e w1 ⟨rfl, hb1⟩)
  go_ret3
  exact ⟨rfl, hb1⟩
/-- The inner package's ErrSyntax. -/
abbrev errS : Value := .iface 55 (.int .i64 2)
set_option maxRecDepth 100000 in
theorem inner_float (s : ByteArray) (v : Nat) (er : Value) (w : World) (h : Reads s w v (s.size : Int) er) :
    Calls Tryz.prog 25 #[.string s, .int .i64 64] w fun e w' => e = .returned (.tuple #[.float .f64 v, er]) ∧ Below w.heap.size w w' := by
  go_enter Tryz.func25, Tryz.ntmps25
  go_wp2_with (go_at_call 33; refine (prefix_of s v _ er _ h).mono ?_; rintro e w1 ⟨rfl, hb1⟩)
  go_ret2
  exact ⟨rfl, hb1⟩
set_option maxRecDepth 100000 in
theorem inner_float_short (s : ByteArray) (v : Nat) (n : Int) (er : Value) (w : World) (h : Reads s w v n er) (hn : n ≠ (s.size : Int)) :
    Calls Tryz.prog 25 #[.string s, .int .i64 64] w fun e w' => e = .returned (.tuple #[.float .f64 0, errS]) ∧ Below w.heap.size w w' := by
  have hn1 : (n != (s.size : Int)) = true := bne_iff_ne.2 hn
  go_enter Tryz.func25, Tryz.ntmps25
  go_wp2_with (go_at_call 33; refine (prefix_of s v _ er _ h).mono ?_; rintro e w1 ⟨rfl, hb1⟩)
  go_ret2
  exact ⟨rfl, hb1⟩
/-- strconv.ParseFloat, where the inner one has an answer. -/
theorem parse_float (s : ByteArray) (v : Nat) (w : World) (h : Calls Tryz.prog 25 #[.string s, .int .i64 64] w fun e w' => e = .returned (.tuple #[.float .f64 v, .nilIface]) ∧ Below w.heap.size w w') :
    Calls Tryz.prog 20 #[.string s, .int .i64 64] w fun e w' => e = .returned (.tuple #[.float .f64 v, .nilIface]) ∧ Below w.heap.size w w' := by
  go_enter Tryz.func20, Tryz.ntmps20
  go_wp2_with (go_at_call 25; refine h.mono ?_; rintro e w1 ⟨rfl, hb1⟩)
  go_ret2
  exact ⟨rfl, hb1⟩
/-- strconv.ParseFloat, where the inner one says ErrSyntax: a *NumError in a block of its own. -/
theorem parse_float_err (s : ByteArray) (ev : Value) (w : World) (hlim : s.size ≤ 281474976710656) (hv : w.cell? ⟨2, 0, none⟩ = some ev) (hev : ev = .nilIface ∨ ∃ te pe, ev = .iface te pe)
    (hb : 2 < w.heap.size) (h : Calls Tryz.prog 25 #[.string s, .int .i64 64] w fun e w' => e = .returned (.tuple #[.float .f64 0, errS]) ∧ Below w.heap.size w w') :
    Calls Tryz.prog 20 #[.string s, .int .i64 64] w fun e w' => ∃ N fn, e = .returned (.tuple #[.float .f64 0, .iface 56 (.pointer (some ⟨N, 0, none⟩))]) ∧ w.heap.size ≤ N ∧ w'.heap[N]? = some (.cells #[.string fn, .string s, ev] 78 (0, 0)) ∧ Below w.heap.size w w' := by
  go_enter Tryz.func20, Tryz.ntmps20
  go_wp2_with (first | (go_at_call 25; refine h.mono ?_; rintro e w1 ⟨rfl, hb1⟩) | (go_at_call 26; refine (Tryz.strconv_toError_syntax _ s _ _ ev _ hlim ((hb1.cell hb).trans hv) hev).mono ?_; rintro e w2 ⟨N, rfl, hN, hcell, hb2⟩))
  go_ret2
  exact ⟨N, _, rfl, Nat.le_trans hb1.size hN, hcell, hb1.trans (hb2.mono hb1.size)⟩
end Go.Proofs.YtllaepgbpmiglaaGreatDoor
