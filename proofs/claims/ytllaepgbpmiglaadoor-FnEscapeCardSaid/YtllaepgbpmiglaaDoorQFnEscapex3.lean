-- Written by a program of this session out of the translation (a copy of the kit's print, turned). Not trusted: Lean checks it.
import Derived.Test.YtllaepgbpmiglaaDoorQFnEscapex0
namespace Go.Proofs.YtllaepgbpmiglaaDoor.QFnEscape
open Go.RowKit Go.Proofs.YtllaepgbpmiglaaDoorW.PrintWords Go.Proofs.YtllaepgbpmiglaaDoorW.PrintLast Go.Proofs.YtllaepgbpmiglaaDoorW.PrintMore
attribute [local go_sem] max2_int min2_int max_two min_two max_three min_three max_four min_four   -- for this text's walks alone
set_option linter.unusedVariables false
set_option linter.unusedSimpArgs false

/-! ### otto_zzHas: function 25 -/
def otto_zzHas.l0 : Nat → ByteArray → Int → Int → Option (Bool)
  | 0, _, _, _ => none
  | k + 1, x0, x1, x5 => if x5 < (x0.size : Int) then (if 0 ≤ x5 then (if (bt x0 x5) = x1 then (some true) else (otto_zzHas.l0 k x0 x1 (wrap64 (x5 + 1)))) else (none)) else (some false)
def otto_zzHas.f (k : Nat) (a0 : ByteArray) (a1 : Int) : Option (Bool) := otto_zzHas.l0 k a0 a1 0
theorem otto_zzHas.mono_l : ∀ k, (∀ y0 y1 y2, LeO (otto_zzHas.l0 k y0 y1 y2) (otto_zzHas.l0 (k + 1) y0 y1 y2))
  | 0 => fun _ _ _ r h => by simp [otto_zzHas.l0] at h
  | k + 1 => by
    have ih0 := otto_zzHas.mono_l k
    · intro y0 y1 y2
      unfold otto_zzHas.l0
      repeat' first
      | (with_reducible exact ih0 _ _ _)
      | (with_reducible exact LeO.refl _)
      | (with_reducible exact LeO.none _)
      | (with_reducible refine LeO.ite ?_ ?_)
      | (with_reducible refine LeO.bind ?_ (fun _ => ?_))
      | exact ih0 _ _ _
      | exact LeO.none _
      | refine LeO.ite ?_ ?_
      | refine LeO.bind ?_ (fun _ => ?_)
theorem otto_zzHas.mono : ∀ a0 a1 k, LeO (otto_zzHas.f k a0 a1) (otto_zzHas.f (k + 1) a0 a1) := by
  intro a0 a1 k
  have ih0 := otto_zzHas.mono_l k
  unfold otto_zzHas.f
  repeat' first
      | (with_reducible exact ih0 _ _ _)
      | (with_reducible exact LeO.refl _)
      | (with_reducible exact LeO.none _)
      | (with_reducible refine LeO.ite ?_ ?_)
      | (with_reducible refine LeO.bind ?_ (fun _ => ?_))
      | exact ih0 _ _ _
      | exact LeO.none _
      | refine LeO.ite ?_ ?_
      | refine LeO.bind ?_ (fun _ => ?_)
set_option maxHeartbeats 8000000 in
set_option maxRecDepth 100000 in
theorem otto_zzHas.calls (k : Nat) (a0 : ByteArray) (a1 : Int) (r : Bool) (w : World) (h : otto_zzHas.f k a0 a1 = some r) :
    Calls Tryd.prog 25 #[.string a0, .int .u8 a1] w fun e w' => e = .returned (.bool r) ∧ Drawn0 w w' := by
  have H : (otto_zzHas.l0 k a0 a1 0) = some r := h
  clear h
  have H' := Aside0.mk H
  clear H
  go_enter Tryd.func25, Tryd.ntmps25
  go_wp2
  go_loopg [5] k (fun kq v5 w' => ∃ (x5_1 : Int), v5 = .int .i64 x5_1 ∧ Aside0 (otto_zzHas.l0 kq a0 a1 x5_1 = some r) ∧ Aside0 (kq ≤ k) ∧ Drawn0 w w')
  case atStart => exact ⟨(0), (by first | rfl | (simp; done) | (simp [*]; done)), H', ⟨Nat.le_refl _⟩, by repeat (first | exact Drawn0.refl _ | apply Drawn0.step)⟩
  case round =>
    clear H'
    try clear c2
    try clear p2
    obtain ⟨x5_1, rfl, HA, HK1, ⟨m1, rfl⟩⟩ := hrel
    cases gk with
    | zero => exact absurd HA.out (by simp [otto_zzHas.l0])
    | succ k1 =>
      have H := HA.out
      clear HA
      simp only [otto_zzHas.l0] at H
      by_cases c3 : x5_1 < (a0.size : Int)
      · rw [if_pos c3] at H
        have c3b0 : decide (x5_1 < (a0.size : Int)) = true := decide_eq_true c3
        clear c3
        by_cases c4 : 0 ≤ x5_1
        · rw [if_pos c4] at H
          have c4b0 : decide (0 ≤ x5_1) = true := decide_eq_true c4
          clear c4
          by_cases c6 : (bt a0 x5_1) = a1
          · rw [if_pos c6] at H
            have c6b0 : ((bt a0 x5_1) == a1) = true := beq_iff_eq.mpr c6
            have c6b1 : ((bt a0 x5_1) != a1) = false := bne_eq_false_iff_eq.mpr c6
            clear c6
            obtain rfl := Option.some.inj H
            have p5 : 0 ≤ (x5_1 : Int) := of_decide_eq_true (by first | (with_reducible assumption) | assumption)
            have q5 : x5_1 < (a0.size : Int) := of_decide_eq_true (by first | (with_reducible assumption) | assumption)
            have hx5 := bt_at a0 x5_1
            replace p5 := eq_true p5
            replace q5 := eq_true q5
            go_wp2
            go_ret
            exact ⟨by first | rfl | (simp; done) | (simp [*]; done), by repeat (first | exact Drawn0.refl _ | apply Drawn0.step)⟩
          · rw [if_neg c6] at H
            have c6b0 : ((bt a0 x5_1) == a1) = false := beq_eq_false_iff_ne.mpr c6
            have c6b1 : ((bt a0 x5_1) != a1) = true := bne_iff_ne.mpr c6
            have H' := Aside0.mk H
            clear H
            have p5 : 0 ≤ (x5_1 : Int) := of_decide_eq_true (by first | (with_reducible assumption) | assumption)
            have q5 : x5_1 < (a0.size : Int) := of_decide_eq_true (by first | (with_reducible assumption) | assumption)
            have hx5 := bt_at a0 x5_1
            replace p5 := eq_true p5
            replace q5 := eq_true q5
            go_wp2
            go_roundg k1
            case measure => have := HK1.out; omega
            case rel => exact ⟨(wrap64 (x5_1 + 1)), (by first | rfl | (simp; done) | (simp [*]; done)), H', ⟨by have := HK1.out; omega⟩, by repeat (first | exact Drawn0.refl _ | apply Drawn0.step)⟩
        · rw [if_neg c4] at H
          exact absurd H (by simp)
      · rw [if_neg c3] at H
        have c3b0 : decide (x5_1 < (a0.size : Int)) = false := decide_eq_false c3
        clear c3
        obtain rfl := Option.some.inj H
        go_wp2
        go_ret
        exact ⟨by first | rfl | (simp; done) | (simp [*]; done), by repeat (first | exact Drawn0.refl _ | apply Drawn0.step)⟩

/-! ### otto_builtinShouldEscape: function 20 -/
def otto_builtinShouldEscape.f (k : Nat) (a0 : Int) : Option (Bool) := if 65 ≤ a0 then (if a0 ≤ 90 then (some false) else (if 97 ≤ a0 then (if a0 ≤ 122 then (some false) else (if 48 ≤ a0 then (if a0 ≤ 57 then (some false) else ((otto_zzHas.f k (⟨#[42, 95, 43, 45, 46, 47]⟩ : ByteArray) a0).bind fun t109 => (some (!t109)))) else ((otto_zzHas.f k (⟨#[42, 95, 43, 45, 46, 47]⟩ : ByteArray) a0).bind fun t110 => (some (!t110))))) else (if 48 ≤ a0 then (if a0 ≤ 57 then (some false) else ((otto_zzHas.f k (⟨#[42, 95, 43, 45, 46, 47]⟩ : ByteArray) a0).bind fun t111 => (some (!t111)))) else ((otto_zzHas.f k (⟨#[42, 95, 43, 45, 46, 47]⟩ : ByteArray) a0).bind fun t112 => (some (!t112)))))) else (if 97 ≤ a0 then (if a0 ≤ 122 then (some false) else (if 48 ≤ a0 then (if a0 ≤ 57 then (some false) else ((otto_zzHas.f k (⟨#[42, 95, 43, 45, 46, 47]⟩ : ByteArray) a0).bind fun t113 => (some (!t113)))) else ((otto_zzHas.f k (⟨#[42, 95, 43, 45, 46, 47]⟩ : ByteArray) a0).bind fun t114 => (some (!t114))))) else (if 48 ≤ a0 then (if a0 ≤ 57 then (some false) else ((otto_zzHas.f k (⟨#[42, 95, 43, 45, 46, 47]⟩ : ByteArray) a0).bind fun t115 => (some (!t115)))) else ((otto_zzHas.f k (⟨#[42, 95, 43, 45, 46, 47]⟩ : ByteArray) a0).bind fun t116 => (some (!t116)))))
theorem otto_builtinShouldEscape.mono : ∀ a0 k, LeO (otto_builtinShouldEscape.f k a0) (otto_builtinShouldEscape.f (k + 1) a0) := by
  intro a0 k
  unfold otto_builtinShouldEscape.f
  repeat' first
      | (with_reducible exact otto_zzHas.mono _ _ _)
      | (with_reducible exact LeO.refl _)
      | (with_reducible exact LeO.none _)
      | (with_reducible refine LeO.ite ?_ ?_)
      | (with_reducible refine LeO.bind ?_ (fun _ => ?_))
      | exact otto_zzHas.mono _ _ _
      | exact LeO.none _
      | refine LeO.ite ?_ ?_
      | refine LeO.bind ?_ (fun _ => ?_)
set_option maxHeartbeats 8000000 in
set_option maxRecDepth 100000 in
theorem otto_builtinShouldEscape.calls (k : Nat) (a0 : Int) (r : Bool) (w : World) (h : otto_builtinShouldEscape.f k a0 = some r) :
    Calls Tryd.prog 20 #[.int .u8 a0] w fun e w' => e = .returned (.bool r) ∧ Drawn0 w w' := by
  have H : (if 65 ≤ a0 then (if a0 ≤ 90 then (some false) else (if 97 ≤ a0 then (if a0 ≤ 122 then (some false) else (if 48 ≤ a0 then (if a0 ≤ 57 then (some false) else ((otto_zzHas.f k (⟨#[42, 95, 43, 45, 46, 47]⟩ : ByteArray) a0).bind fun t109 => (some (!t109)))) else ((otto_zzHas.f k (⟨#[42, 95, 43, 45, 46, 47]⟩ : ByteArray) a0).bind fun t110 => (some (!t110))))) else (if 48 ≤ a0 then (if a0 ≤ 57 then (some false) else ((otto_zzHas.f k (⟨#[42, 95, 43, 45, 46, 47]⟩ : ByteArray) a0).bind fun t111 => (some (!t111)))) else ((otto_zzHas.f k (⟨#[42, 95, 43, 45, 46, 47]⟩ : ByteArray) a0).bind fun t112 => (some (!t112)))))) else (if 97 ≤ a0 then (if a0 ≤ 122 then (some false) else (if 48 ≤ a0 then (if a0 ≤ 57 then (some false) else ((otto_zzHas.f k (⟨#[42, 95, 43, 45, 46, 47]⟩ : ByteArray) a0).bind fun t113 => (some (!t113)))) else ((otto_zzHas.f k (⟨#[42, 95, 43, 45, 46, 47]⟩ : ByteArray) a0).bind fun t114 => (some (!t114))))) else (if 48 ≤ a0 then (if a0 ≤ 57 then (some false) else ((otto_zzHas.f k (⟨#[42, 95, 43, 45, 46, 47]⟩ : ByteArray) a0).bind fun t115 => (some (!t115)))) else ((otto_zzHas.f k (⟨#[42, 95, 43, 45, 46, 47]⟩ : ByteArray) a0).bind fun t116 => (some (!t116)))))) = some r := h
  clear h
  by_cases c2 : 65 ≤ a0
  · rw [if_pos c2] at H
    have c2b0 : decide (65 ≤ a0) = true := decide_eq_true c2
    clear c2
    by_cases c3 : a0 ≤ 90
    · rw [if_pos c3] at H
      have c3b0 : decide (a0 ≤ 90) = true := decide_eq_true c3
      clear c3
      obtain rfl := Option.some.inj H
      go_enter Tryd.func20, Tryd.ntmps20
      go_wp2
      go_ret
      exact ⟨by first | rfl | (simp; done) | (simp [*]; done), by repeat (first | exact Drawn0.refl _ | apply Drawn0.step)⟩
    · rw [if_neg c3] at H
      have c3b0 : decide (a0 ≤ 90) = false := decide_eq_false c3
      clear c3
      by_cases c4 : 97 ≤ a0
      · rw [if_pos c4] at H
        have c4b0 : decide (97 ≤ a0) = true := decide_eq_true c4
        clear c4
        by_cases c5 : a0 ≤ 122
        · rw [if_pos c5] at H
          have c5b0 : decide (a0 ≤ 122) = true := decide_eq_true c5
          clear c5
          obtain rfl := Option.some.inj H
          go_enter Tryd.func20, Tryd.ntmps20
          go_wp2
          go_ret
          exact ⟨by first | rfl | (simp; done) | (simp [*]; done), by repeat (first | exact Drawn0.refl _ | apply Drawn0.step)⟩
        · rw [if_neg c5] at H
          have c5b0 : decide (a0 ≤ 122) = false := decide_eq_false c5
          clear c5
          by_cases c6 : 48 ≤ a0
          · rw [if_pos c6] at H
            have c6b0 : decide (48 ≤ a0) = true := decide_eq_true c6
            clear c6
            by_cases c7 : a0 ≤ 57
            · rw [if_pos c7] at H
              have c7b0 : decide (a0 ≤ 57) = true := decide_eq_true c7
              clear c7
              obtain rfl := Option.some.inj H
              go_enter Tryd.func20, Tryd.ntmps20
              go_wp2
              go_ret
              exact ⟨by first | rfl | (simp; done) | (simp [*]; done), by repeat (first | exact Drawn0.refl _ | apply Drawn0.step)⟩
            · rw [if_neg c7] at H
              have c7b0 : decide (a0 ≤ 57) = false := decide_eq_false c7
              clear c7
              replace H := Option.bind_eq_some_iff.mp H
              obtain ⟨t109, A80, H⟩ := H
              replace H : (some (!t109)) = some r := H
              have A8 := Aside0.mk A80
              clear A80
              obtain rfl := Option.some.inj H
              go_enter Tryd.func20, Tryd.ntmps20
              go_wp2_with (first | ((with_reducible refine gate_callee (f := 25) rfl ?_); refine goesL_ (some 26) rfl rfl Tryd.func25 (by kernel_rfl) rfl #[.string (⟨#[42, 95, 43, 45, 46, 47]⟩ : ByteArray), .int .u8 a0] rfl (by (try simp only [List.map_toArray, List.map_cons, List.map_nil]); first | done | rfl | (simp only [List.length_drop, List.length_take]; rfl)) ?_; (with_reducible refine (otto_zzHas.calls k (⟨#[42, 95, 43, 45, 46, 47]⟩ : ByteArray) a0 t109 _ A8.out).mono ?_); rintro e w' ⟨rfl, ⟨nd, rfl⟩⟩; refine ⟨_, rfl, ?_⟩))
              go_ret
              exact ⟨by first | rfl | (simp; done) | (simp [*]; done), by repeat (first | exact Drawn0.refl _ | apply Drawn0.step)⟩
          · rw [if_neg c6] at H
            have c6b0 : decide (48 ≤ a0) = false := decide_eq_false c6
            clear c6
            replace H := Option.bind_eq_some_iff.mp H
            obtain ⟨t110, A90, H⟩ := H
            replace H : (some (!t110)) = some r := H
            have A9 := Aside0.mk A90
            clear A90
            obtain rfl := Option.some.inj H
            go_enter Tryd.func20, Tryd.ntmps20
            go_wp2_with (first | ((with_reducible refine gate_callee (f := 25) rfl ?_); refine goesL_ (some 26) rfl rfl Tryd.func25 (by kernel_rfl) rfl #[.string (⟨#[42, 95, 43, 45, 46, 47]⟩ : ByteArray), .int .u8 a0] rfl (by (try simp only [List.map_toArray, List.map_cons, List.map_nil]); first | done | rfl | (simp only [List.length_drop, List.length_take]; rfl)) ?_; (with_reducible refine (otto_zzHas.calls k (⟨#[42, 95, 43, 45, 46, 47]⟩ : ByteArray) a0 t110 _ A9.out).mono ?_); rintro e w' ⟨rfl, ⟨nd, rfl⟩⟩; refine ⟨_, rfl, ?_⟩))
            go_ret
            exact ⟨by first | rfl | (simp; done) | (simp [*]; done), by repeat (first | exact Drawn0.refl _ | apply Drawn0.step)⟩
      · rw [if_neg c4] at H
        have c4b0 : decide (97 ≤ a0) = false := decide_eq_false c4
        clear c4
        by_cases c10 : 48 ≤ a0
        · rw [if_pos c10] at H
          have c10b0 : decide (48 ≤ a0) = true := decide_eq_true c10
          clear c10
          by_cases c11 : a0 ≤ 57
          · rw [if_pos c11] at H
            have c11b0 : decide (a0 ≤ 57) = true := decide_eq_true c11
            clear c11
            obtain rfl := Option.some.inj H
            go_enter Tryd.func20, Tryd.ntmps20
            go_wp2
            go_ret
            exact ⟨by first | rfl | (simp; done) | (simp [*]; done), by repeat (first | exact Drawn0.refl _ | apply Drawn0.step)⟩
          · rw [if_neg c11] at H
            have c11b0 : decide (a0 ≤ 57) = false := decide_eq_false c11
            clear c11
            replace H := Option.bind_eq_some_iff.mp H
            obtain ⟨t111, A120, H⟩ := H
            replace H : (some (!t111)) = some r := H
            have A12 := Aside0.mk A120
            clear A120
            obtain rfl := Option.some.inj H
            go_enter Tryd.func20, Tryd.ntmps20
            go_wp2_with (first | ((with_reducible refine gate_callee (f := 25) rfl ?_); refine goesL_ (some 26) rfl rfl Tryd.func25 (by kernel_rfl) rfl #[.string (⟨#[42, 95, 43, 45, 46, 47]⟩ : ByteArray), .int .u8 a0] rfl (by (try simp only [List.map_toArray, List.map_cons, List.map_nil]); first | done | rfl | (simp only [List.length_drop, List.length_take]; rfl)) ?_; (with_reducible refine (otto_zzHas.calls k (⟨#[42, 95, 43, 45, 46, 47]⟩ : ByteArray) a0 t111 _ A12.out).mono ?_); rintro e w' ⟨rfl, ⟨nd, rfl⟩⟩; refine ⟨_, rfl, ?_⟩))
            go_ret
            exact ⟨by first | rfl | (simp; done) | (simp [*]; done), by repeat (first | exact Drawn0.refl _ | apply Drawn0.step)⟩
        · rw [if_neg c10] at H
          have c10b0 : decide (48 ≤ a0) = false := decide_eq_false c10
          clear c10
          replace H := Option.bind_eq_some_iff.mp H
          obtain ⟨t112, A130, H⟩ := H
          replace H : (some (!t112)) = some r := H
          have A13 := Aside0.mk A130
          clear A130
          obtain rfl := Option.some.inj H
          go_enter Tryd.func20, Tryd.ntmps20
          go_wp2_with (first | ((with_reducible refine gate_callee (f := 25) rfl ?_); refine goesL_ (some 26) rfl rfl Tryd.func25 (by kernel_rfl) rfl #[.string (⟨#[42, 95, 43, 45, 46, 47]⟩ : ByteArray), .int .u8 a0] rfl (by (try simp only [List.map_toArray, List.map_cons, List.map_nil]); first | done | rfl | (simp only [List.length_drop, List.length_take]; rfl)) ?_; (with_reducible refine (otto_zzHas.calls k (⟨#[42, 95, 43, 45, 46, 47]⟩ : ByteArray) a0 t112 _ A13.out).mono ?_); rintro e w' ⟨rfl, ⟨nd, rfl⟩⟩; refine ⟨_, rfl, ?_⟩))
          go_ret
          exact ⟨by first | rfl | (simp; done) | (simp [*]; done), by repeat (first | exact Drawn0.refl _ | apply Drawn0.step)⟩
  · rw [if_neg c2] at H
    have c2b0 : decide (65 ≤ a0) = false := decide_eq_false c2
    clear c2
    by_cases c14 : 97 ≤ a0
    · rw [if_pos c14] at H
      have c14b0 : decide (97 ≤ a0) = true := decide_eq_true c14
      clear c14
      by_cases c15 : a0 ≤ 122
      · rw [if_pos c15] at H
        have c15b0 : decide (a0 ≤ 122) = true := decide_eq_true c15
        clear c15
        obtain rfl := Option.some.inj H
        go_enter Tryd.func20, Tryd.ntmps20
        go_wp2
        go_ret
        exact ⟨by first | rfl | (simp; done) | (simp [*]; done), by repeat (first | exact Drawn0.refl _ | apply Drawn0.step)⟩
      · rw [if_neg c15] at H
        have c15b0 : decide (a0 ≤ 122) = false := decide_eq_false c15
        clear c15
        by_cases c16 : 48 ≤ a0
        · rw [if_pos c16] at H
          have c16b0 : decide (48 ≤ a0) = true := decide_eq_true c16
          clear c16
          by_cases c17 : a0 ≤ 57
          · rw [if_pos c17] at H
            have c17b0 : decide (a0 ≤ 57) = true := decide_eq_true c17
            clear c17
            obtain rfl := Option.some.inj H
            go_enter Tryd.func20, Tryd.ntmps20
            go_wp2
            go_ret
            exact ⟨by first | rfl | (simp; done) | (simp [*]; done), by repeat (first | exact Drawn0.refl _ | apply Drawn0.step)⟩
          · rw [if_neg c17] at H
            have c17b0 : decide (a0 ≤ 57) = false := decide_eq_false c17
            clear c17
            replace H := Option.bind_eq_some_iff.mp H
            obtain ⟨t113, A180, H⟩ := H
            replace H : (some (!t113)) = some r := H
            have A18 := Aside0.mk A180
            clear A180
            obtain rfl := Option.some.inj H
            go_enter Tryd.func20, Tryd.ntmps20
            go_wp2_with (first | ((with_reducible refine gate_callee (f := 25) rfl ?_); refine goesL_ (some 26) rfl rfl Tryd.func25 (by kernel_rfl) rfl #[.string (⟨#[42, 95, 43, 45, 46, 47]⟩ : ByteArray), .int .u8 a0] rfl (by (try simp only [List.map_toArray, List.map_cons, List.map_nil]); first | done | rfl | (simp only [List.length_drop, List.length_take]; rfl)) ?_; (with_reducible refine (otto_zzHas.calls k (⟨#[42, 95, 43, 45, 46, 47]⟩ : ByteArray) a0 t113 _ A18.out).mono ?_); rintro e w' ⟨rfl, ⟨nd, rfl⟩⟩; refine ⟨_, rfl, ?_⟩))
            go_ret
            exact ⟨by first | rfl | (simp; done) | (simp [*]; done), by repeat (first | exact Drawn0.refl _ | apply Drawn0.step)⟩
        · rw [if_neg c16] at H
          have c16b0 : decide (48 ≤ a0) = false := decide_eq_false c16
          clear c16
          replace H := Option.bind_eq_some_iff.mp H
          obtain ⟨t114, A190, H⟩ := H
          replace H : (some (!t114)) = some r := H
          have A19 := Aside0.mk A190
          clear A190
          obtain rfl := Option.some.inj H
          go_enter Tryd.func20, Tryd.ntmps20
          go_wp2_with (first | ((with_reducible refine gate_callee (f := 25) rfl ?_); refine goesL_ (some 26) rfl rfl Tryd.func25 (by kernel_rfl) rfl #[.string (⟨#[42, 95, 43, 45, 46, 47]⟩ : ByteArray), .int .u8 a0] rfl (by (try simp only [List.map_toArray, List.map_cons, List.map_nil]); first | done | rfl | (simp only [List.length_drop, List.length_take]; rfl)) ?_; (with_reducible refine (otto_zzHas.calls k (⟨#[42, 95, 43, 45, 46, 47]⟩ : ByteArray) a0 t114 _ A19.out).mono ?_); rintro e w' ⟨rfl, ⟨nd, rfl⟩⟩; refine ⟨_, rfl, ?_⟩))
          go_ret
          exact ⟨by first | rfl | (simp; done) | (simp [*]; done), by repeat (first | exact Drawn0.refl _ | apply Drawn0.step)⟩
    · rw [if_neg c14] at H
      have c14b0 : decide (97 ≤ a0) = false := decide_eq_false c14
      clear c14
      by_cases c20 : 48 ≤ a0
      · rw [if_pos c20] at H
        have c20b0 : decide (48 ≤ a0) = true := decide_eq_true c20
        clear c20
        by_cases c21 : a0 ≤ 57
        · rw [if_pos c21] at H
          have c21b0 : decide (a0 ≤ 57) = true := decide_eq_true c21
          clear c21
          obtain rfl := Option.some.inj H
          go_enter Tryd.func20, Tryd.ntmps20
          go_wp2
          go_ret
          exact ⟨by first | rfl | (simp; done) | (simp [*]; done), by repeat (first | exact Drawn0.refl _ | apply Drawn0.step)⟩
        · rw [if_neg c21] at H
          have c21b0 : decide (a0 ≤ 57) = false := decide_eq_false c21
          clear c21
          replace H := Option.bind_eq_some_iff.mp H
          obtain ⟨t115, A220, H⟩ := H
          replace H : (some (!t115)) = some r := H
          have A22 := Aside0.mk A220
          clear A220
          obtain rfl := Option.some.inj H
          go_enter Tryd.func20, Tryd.ntmps20
          go_wp2_with (first | ((with_reducible refine gate_callee (f := 25) rfl ?_); refine goesL_ (some 26) rfl rfl Tryd.func25 (by kernel_rfl) rfl #[.string (⟨#[42, 95, 43, 45, 46, 47]⟩ : ByteArray), .int .u8 a0] rfl (by (try simp only [List.map_toArray, List.map_cons, List.map_nil]); first | done | rfl | (simp only [List.length_drop, List.length_take]; rfl)) ?_; (with_reducible refine (otto_zzHas.calls k (⟨#[42, 95, 43, 45, 46, 47]⟩ : ByteArray) a0 t115 _ A22.out).mono ?_); rintro e w' ⟨rfl, ⟨nd, rfl⟩⟩; refine ⟨_, rfl, ?_⟩))
          go_ret
          exact ⟨by first | rfl | (simp; done) | (simp [*]; done), by repeat (first | exact Drawn0.refl _ | apply Drawn0.step)⟩
      · rw [if_neg c20] at H
        have c20b0 : decide (48 ≤ a0) = false := decide_eq_false c20
        clear c20
        replace H := Option.bind_eq_some_iff.mp H
        obtain ⟨t116, A230, H⟩ := H
        replace H : (some (!t116)) = some r := H
        have A23 := Aside0.mk A230
        clear A230
        obtain rfl := Option.some.inj H
        go_enter Tryd.func20, Tryd.ntmps20
        go_wp2_with (first | ((with_reducible refine gate_callee (f := 25) rfl ?_); refine goesL_ (some 26) rfl rfl Tryd.func25 (by kernel_rfl) rfl #[.string (⟨#[42, 95, 43, 45, 46, 47]⟩ : ByteArray), .int .u8 a0] rfl (by (try simp only [List.map_toArray, List.map_cons, List.map_nil]); first | done | rfl | (simp only [List.length_drop, List.length_take]; rfl)) ?_; (with_reducible refine (otto_zzHas.calls k (⟨#[42, 95, 43, 45, 46, 47]⟩ : ByteArray) a0 t116 _ A23.out).mono ?_); rintro e w' ⟨rfl, ⟨nd, rfl⟩⟩; refine ⟨_, rfl, ?_⟩))
        go_ret
        exact ⟨by first | rfl | (simp; done) | (simp [*]; done), by repeat (first | exact Drawn0.refl _ | apply Drawn0.step)⟩

-- NOT PRINTED: function 26 (utf8_decodeRuneInStringSlow)

/-! ### utf8_DecodeRuneInString: function 21 -/
def utf8_DecodeRuneInString.f (a0 : ByteArray) : Option (Int × Int) := if a0.toList = ([] : List UInt8) then (none) else (if 0 < (a0.size : Int) then (if (bt a0 0) < 128 then (some (wrap32 (bt a0 0), 1)) else (none)) else (none))
set_option maxHeartbeats 8000000 in
set_option maxRecDepth 100000 in
theorem utf8_DecodeRuneInString.calls (a0 : ByteArray) (r1 : Int) (r2 : Int) (w : World) (h : utf8_DecodeRuneInString.f a0 = some (r1, r2)) :
    Calls Tryd.prog 21 #[.string a0] w fun e w' => e = .returned (.tuple #[.int .i32 r1, .int .i64 r2]) ∧ Drawn0 w w' := by
  have H : (if a0.toList = ([] : List UInt8) then (none) else (if 0 < (a0.size : Int) then (if (bt a0 0) < 128 then (some (wrap32 (bt a0 0), 1)) else (none)) else (none))) = some (r1, r2) := h
  clear h
  by_cases c2 : a0.toList = ([] : List UInt8)
  · rw [if_pos c2] at H
    exact absurd H (by simp)
  · rw [if_neg c2] at H
    have c2b0 : (a0.toList == ([] : List UInt8)) = false := beq_eq_false_iff_ne.mpr c2
    have c2b1 : (a0.toList != ([] : List UInt8)) = true := bne_iff_ne.mpr c2
    by_cases c3 : 0 < (a0.size : Int)
    · rw [if_pos c3] at H
      have c3b0 : decide (0 < (a0.size : Int)) = true := decide_eq_true c3
      have c3b1 : decide (0 < a0.size) = true := decide_eq_true (by omega)
      clear c3
      by_cases c5 : (bt a0 0) < 128
      · rw [if_pos c5] at H
        have c5b0 : decide ((bt a0 0) < 128) = true := decide_eq_true c5
        clear c5
        simp only [Option.some.injEq, Prod.mk.injEq] at H
        obtain ⟨rfl, rfl⟩ := H
        have p4 : 0 ≤ (0 : Int) := (by omega)
        have q4 : 0 < a0.size := (by have : (0 : Int) < (a0.size : Int) := of_decide_eq_true (by first | (with_reducible assumption) | assumption); omega)
        have hx4 : ∀ h : 0 < a0.size, ((a0[0]'h).toNat : Int) = bt a0 0 := bt_at a0 0
        clear p4
        have qi4 : (0 < (a0.size : Int)) = True := eq_true (of_decide_eq_true (by first | (with_reducible assumption) | assumption))
        replace q4 := eq_true q4
        have p6 : 0 ≤ (0 : Int) := (by omega)
        have q6 : 0 < a0.size := (by have : (0 : Int) < (a0.size : Int) := of_decide_eq_true (by first | (with_reducible assumption) | assumption); omega)
        have hx6 : ∀ h : 0 < a0.size, ((a0[0]'h).toNat : Int) = bt a0 0 := bt_at a0 0
        clear p6
        have qi6 : (0 < (a0.size : Int)) = True := eq_true (of_decide_eq_true (by first | (with_reducible assumption) | assumption))
        replace q6 := eq_true q6
        go_enter Tryd.func21, Tryd.ntmps21
        go_wp2
        go_ret2
        exact ⟨by first | rfl | (simp; done) | (simp [*]; done), by repeat (first | exact Drawn0.refl _ | apply Drawn0.step)⟩
      · rw [if_neg c5] at H
        exact absurd H (by simp)
    · rw [if_neg c3] at H
      exact absurd H (by simp)

/-! ### utf16_RuneLen: function 27 -/
mutual
def utf16_RuneLen.j0 : Nat → Int → Bool → Option (Int)
  | 0, _, _ => none
  | k + 1, x0, x3 => if x3 = true then (utf16_RuneLen.j1 k x0 x3) else (if 57344 ≤ x0 then (utf16_RuneLen.j1 k x0 (decide (x0 < 65536))) else (utf16_RuneLen.j1 k x0 false))
def utf16_RuneLen.j1 : Nat → Int → Bool → Option (Int)
  | 0, _, _ => none
  | k + 1, x0, x3 => if x3 = true then (some 1) else (if 65536 ≤ x0 then (if x0 ≤ 1114111 then (some 2) else (some (-1))) else (some (-1)))
end
def utf16_RuneLen.f (k : Nat) (a0 : Int) : Option (Int) := if 0 ≤ a0 then (utf16_RuneLen.j0 k a0 (decide (a0 < 55296))) else (utf16_RuneLen.j0 k a0 false)
theorem utf16_RuneLen.mono_l : ∀ k, (∀ y0 y1, LeO (utf16_RuneLen.j0 k y0 y1) (utf16_RuneLen.j0 (k + 1) y0 y1)) ∧ (∀ y0 y1, LeO (utf16_RuneLen.j1 k y0 y1) (utf16_RuneLen.j1 (k + 1) y0 y1))
  | 0 => ⟨fun _ _ r h => by simp [utf16_RuneLen.j0] at h, fun _ _ r h => by simp [utf16_RuneLen.j1] at h⟩
  | k + 1 => by
    obtain ⟨ih0, ih1⟩ := utf16_RuneLen.mono_l k
    refine ⟨?_, ?_⟩
    · intro y0 y1
      unfold utf16_RuneLen.j0
      repeat' first
      | (with_reducible exact ih0 _ _)
      | (with_reducible exact ih1 _ _)
      | (with_reducible exact LeO.refl _)
      | (with_reducible exact LeO.none _)
      | (with_reducible refine LeO.ite ?_ ?_)
      | (with_reducible refine LeO.bind ?_ (fun _ => ?_))
      | exact ih0 _ _
      | exact ih1 _ _
      | exact LeO.none _
      | refine LeO.ite ?_ ?_
      | refine LeO.bind ?_ (fun _ => ?_)
    · intro y0 y1
      unfold utf16_RuneLen.j1
      repeat' first
      | (with_reducible exact ih0 _ _)
      | (with_reducible exact ih1 _ _)
      | (with_reducible exact LeO.refl _)
      | (with_reducible exact LeO.none _)
      | (with_reducible refine LeO.ite ?_ ?_)
      | (with_reducible refine LeO.bind ?_ (fun _ => ?_))
      | exact ih0 _ _
      | exact ih1 _ _
      | exact LeO.none _
      | refine LeO.ite ?_ ?_
      | refine LeO.bind ?_ (fun _ => ?_)
theorem utf16_RuneLen.mono : ∀ a0 k, LeO (utf16_RuneLen.f k a0) (utf16_RuneLen.f (k + 1) a0) := by
  intro a0 k
  obtain ⟨ih0, ih1⟩ := utf16_RuneLen.mono_l k
  unfold utf16_RuneLen.f
  repeat' first
      | (with_reducible exact ih0 _ _)
      | (with_reducible exact ih1 _ _)
      | (with_reducible exact LeO.refl _)
      | (with_reducible exact LeO.none _)
      | (with_reducible refine LeO.ite ?_ ?_)
      | (with_reducible refine LeO.bind ?_ (fun _ => ?_))
      | exact ih0 _ _
      | exact ih1 _ _
      | exact LeO.none _
      | refine LeO.ite ?_ ?_
      | refine LeO.bind ?_ (fun _ => ?_)
set_option maxHeartbeats 8000000 in
set_option maxRecDepth 100000 in
theorem utf16_RuneLen.calls (k : Nat) (a0 : Int) (r : Int) (w : World) (h : utf16_RuneLen.f k a0 = some r) :
    Calls Tryd.prog 27 #[.int .i32 a0] w fun e w' => e = .returned (.int .i64 r) ∧ Drawn0 w w' := by
  have H : (if 0 ≤ a0 then (utf16_RuneLen.j0 k a0 (decide (a0 < 55296))) else (utf16_RuneLen.j0 k a0 false)) = some r := h
  clear h
  have HC2 := Aside0.mk H
  clear H
  go_enter Tryd.func27, Tryd.ntmps27
  go_upto_region 2 with (fail)
  go_cut [3] (fun v3 wc => ∃ (kq : Nat) (x3_1 : Bool), v3 = .bool x3_1 ∧ Aside0 (utf16_RuneLen.j0 kq a0 x3_1 = some r) ∧ Aside0 (kq ≤ k) ∧ Drawn0 w wc)
  case first =>
    have H := HC2.out
    clear HC2
    by_cases c3 : 0 ≤ a0
    · rw [if_pos c3] at H
      have c3b0 : decide (0 ≤ a0) = true := decide_eq_true c3
      clear c3
      (first | rw [c3b0] | (simp only [i64_w, i32_w]; rw [c3b0]) | skip)
      have H' := Aside0.mk H
      clear H
      go_wp2
      go_meet
      case rel => exact ⟨_, (decide (a0 < 55296)), (by first | rfl | (simp; done) | (simp [*]; done)), H', ⟨by first | omega | exact Nat.le_refl _⟩, by repeat (first | exact Drawn0.refl _ | apply Drawn0.step)⟩
    · rw [if_neg c3] at H
      have c3b0 : decide (0 ≤ a0) = false := decide_eq_false c3
      clear c3
      (first | rw [c3b0] | (simp only [i64_w, i32_w]; rw [c3b0]) | skip)
      have H' := Aside0.mk H
      clear H
      go_wp2
      go_meet
      case rel => exact ⟨_, (false), (by first | rfl | (simp; done) | (simp [*]; done)), H', ⟨by first | omega | exact Nat.le_refl _⟩, by repeat (first | exact Drawn0.refl _ | apply Drawn0.step)⟩
  case rest =>
    clear HC2
    try clear c2
    try clear p2
    try clear c3
    try clear c3b0
    obtain ⟨kq, x3_1, rfl, HA, HJ1, ⟨mc1, rfl⟩⟩ := hcut
    cases kq with
    | zero => exact absurd HA.out (by simp [utf16_RuneLen.j0])
    | succ kj1 =>
      have H := HA.out
      clear HA
      simp only [utf16_RuneLen.j0] at H
      have HC4 := Aside0.mk H
      clear H
      go_upto_if 3 with (fail)
      go_cut [3] (fun v3 wc => ∃ (kq : Nat) (x3_3 : Bool), v3 = .bool x3_3 ∧ Aside0 (utf16_RuneLen.j1 kq a0 x3_3 = some r) ∧ Aside0 (kq ≤ kj1) ∧ Drawn0 w wc)
      case first =>
        have H := HC4.out
        clear HC4
        by_cases c5 : x3_1 = true
        · subst c5
          have H1 : (utf16_RuneLen.j1 kj1 a0 true) = some r := by rw [if_pos rfl] at H; exact H
          clear H
          have H := H1
          clear H1
          have H' := Aside0.mk H
          clear H
          go_wp2
          go_meet
          case rel => exact ⟨_, (true), (by first | rfl | (simp; done) | (simp [*]; done)), H', ⟨by have := HJ1.out; first | omega | exact Nat.le_refl _⟩, by repeat (first | exact Drawn0.refl _ | apply Drawn0.step)⟩
        · replace c5 := Bool.eq_false_iff.mpr c5
          subst c5
          have H1 : (if 57344 ≤ a0 then (utf16_RuneLen.j1 kj1 a0 (decide (a0 < 65536))) else (utf16_RuneLen.j1 kj1 a0 false)) = some r := by rw [if_neg (show ¬ (false = true) by decide)] at H; exact H
          clear H
          have H := H1
          clear H1
          by_cases c6 : 57344 ≤ a0
          · rw [if_pos c6] at H
            have c6b0 : decide (57344 ≤ a0) = true := decide_eq_true c6
            clear c6
            (first | rw [c6b0] | (simp only [i64_w, i32_w]; rw [c6b0]) | skip)
            have H' := Aside0.mk H
            clear H
            go_wp2
            go_meet
            case rel => exact ⟨_, (decide (a0 < 65536)), (by first | rfl | (simp; done) | (simp [*]; done)), H', ⟨by have := HJ1.out; first | omega | exact Nat.le_refl _⟩, by repeat (first | exact Drawn0.refl _ | apply Drawn0.step)⟩
          · rw [if_neg c6] at H
            have c6b0 : decide (57344 ≤ a0) = false := decide_eq_false c6
            clear c6
            (first | rw [c6b0] | (simp only [i64_w, i32_w]; rw [c6b0]) | skip)
            have H' := Aside0.mk H
            clear H
            go_wp2
            go_meet
            case rel => exact ⟨_, (false), (by first | rfl | (simp; done) | (simp [*]; done)), H', ⟨by have := HJ1.out; first | omega | exact Nat.le_refl _⟩, by repeat (first | exact Drawn0.refl _ | apply Drawn0.step)⟩
      case rest =>
        clear HC4
        try clear c1
        try clear c2
        try clear p2
        try clear c3
        try clear c3b0
        try clear c5
        try clear c6
        try clear c6b0
        try clear p2
        obtain ⟨kq, x3_3, rfl, HA, HJ3, ⟨mc3, rfl⟩⟩ := hcut
        cases kq with
        | zero => exact absurd HA.out (by simp [utf16_RuneLen.j1])
        | succ kj3 =>
          have H := HA.out
          clear HA
          simp only [utf16_RuneLen.j1] at H
          by_cases c7 : x3_3 = true
          · subst c7
            have H1 : (some 1) = some r := by rw [if_pos rfl] at H; exact H
            clear H
            have H := H1
            clear H1
            obtain rfl := Option.some.inj H
            go_wp2
            go_ret
            exact ⟨by first | rfl | (simp; done) | (simp [*]; done), by repeat (first | exact Drawn0.refl _ | apply Drawn0.step)⟩
          · replace c7 := Bool.eq_false_iff.mpr c7
            subst c7
            have H1 : (if 65536 ≤ a0 then (if a0 ≤ 1114111 then (some 2) else (some (-1))) else (some (-1))) = some r := by rw [if_neg (show ¬ (false = true) by decide)] at H; exact H
            clear H
            have H := H1
            clear H1
            by_cases c8 : 65536 ≤ a0
            · rw [if_pos c8] at H
              have c8b0 : decide (65536 ≤ a0) = true := decide_eq_true c8
              clear c8
              by_cases c9 : a0 ≤ 1114111
              · rw [if_pos c9] at H
                have c9b0 : decide (a0 ≤ 1114111) = true := decide_eq_true c9
                clear c9
                obtain rfl := Option.some.inj H
                go_wp2
                go_ret
                exact ⟨by first | rfl | (simp; done) | (simp [*]; done), by repeat (first | exact Drawn0.refl _ | apply Drawn0.step)⟩
              · rw [if_neg c9] at H
                have c9b0 : decide (a0 ≤ 1114111) = false := decide_eq_false c9
                clear c9
                obtain rfl := Option.some.inj H
                go_wp2
                go_ret
                exact ⟨by first | rfl | (simp; done) | (simp [*]; done), by repeat (first | exact Drawn0.refl _ | apply Drawn0.step)⟩
            · rw [if_neg c8] at H
              have c8b0 : decide (65536 ≤ a0) = false := decide_eq_false c8
              clear c8
              obtain rfl := Option.some.inj H
              go_wp2
              go_ret
              exact ⟨by first | rfl | (simp; done) | (simp [*]; done), by repeat (first | exact Drawn0.refl _ | apply Drawn0.step)⟩

/-! ### utf16_EncodeRune: function 28 -/
def utf16_EncodeRune.f (a0 : Int) : Option (Int × Int) := if a0 < 65536 then (some (65533, 65533)) else (if a0 > 1114111 then (some (65533, 65533)) else (some (wrap32 (55296 + (Go.bits .and .i32 ((wrap32 (a0 - 65536)) / 1024) 1023)), wrap32 (56320 + (Go.bits .and .i32 (wrap32 (a0 - 65536)) 1023)))))
set_option maxHeartbeats 8000000 in
set_option maxRecDepth 100000 in
theorem utf16_EncodeRune.calls (a0 : Int) (r1 : Int) (r2 : Int) (w : World) (h : utf16_EncodeRune.f a0 = some (r1, r2)) :
    Calls Tryd.prog 28 #[.int .i32 a0] w fun e w' => e = .returned (.tuple #[.int .i32 r1, .int .i32 r2]) ∧ Drawn0 w w' := by
  have H : (if a0 < 65536 then (some (65533, 65533)) else (if a0 > 1114111 then (some (65533, 65533)) else (some (wrap32 (55296 + (Go.bits .and .i32 ((wrap32 (a0 - 65536)) / 1024) 1023)), wrap32 (56320 + (Go.bits .and .i32 (wrap32 (a0 - 65536)) 1023)))))) = some (r1, r2) := h
  clear h
  by_cases c2 : a0 < 65536
  · rw [if_pos c2] at H
    have c2b0 : decide (a0 < 65536) = true := decide_eq_true c2
    clear c2
    simp only [Option.some.injEq, Prod.mk.injEq] at H
    obtain ⟨rfl, rfl⟩ := H
    go_enter Tryd.func28, Tryd.ntmps28
    go_wp2
    go_ret2
    exact ⟨by first | rfl | (simp; done) | (simp [*]; done), by repeat (first | exact Drawn0.refl _ | apply Drawn0.step)⟩
  · rw [if_neg c2] at H
    have c2b0 : decide (a0 < 65536) = false := decide_eq_false c2
    clear c2
    by_cases c3 : a0 > 1114111
    · rw [if_pos c3] at H
      have c3b0 : decide (1114111 < a0) = true := decide_eq_true c3
      clear c3
      simp only [Option.some.injEq, Prod.mk.injEq] at H
      obtain ⟨rfl, rfl⟩ := H
      go_enter Tryd.func28, Tryd.ntmps28
      go_wp2
      go_ret2
      exact ⟨by first | rfl | (simp; done) | (simp [*]; done), by repeat (first | exact Drawn0.refl _ | apply Drawn0.step)⟩
    · rw [if_neg c3] at H
      have c3b0 : decide (1114111 < a0) = false := decide_eq_false c3
      clear c3
      simp only [Option.some.injEq, Prod.mk.injEq] at H
      obtain ⟨rfl, rfl⟩ := H
      go_enter Tryd.func28, Tryd.ntmps28
      go_wp2
      go_ret2
      exact ⟨by first | rfl | (simp; done) | (simp [*]; done), by repeat (first | exact Drawn0.refl _ | apply Drawn0.step)⟩

end Go.Proofs.YtllaepgbpmiglaaDoor.QFnEscape
