-- Written by a program of this session out of the translation (a copy of the kit's print, turned). Not trusted: Lean checks it.
import Derived.Test.YtllaepgbpmiglaaGreatDoorQNumx0
namespace Go.Proofs.YtllaepgbpmiglaaGreatDoor.QNum
open Go.RowKit Go.Proofs.YtllaepgbpmiglaaGreatDoorW.PrintWords Go.Proofs.YtllaepgbpmiglaaGreatDoorW.PrintLast Go.Proofs.YtllaepgbpmiglaaGreatDoorW.PrintMore
attribute [local go_sem] max2_int min2_int max_two min_two max_three min_three max_four min_four   -- for this text's walks alone
set_option linter.unusedVariables false
set_option linter.unusedSimpArgs false

/-! ### spec_ascii: function 9 -/
def spec_ascii.l0 : Nat → ByteArray → Int → Int → Option (Bool)
  | 0, _, _, _ => none
  | k + 1, x0, x5, x6 => if x6 < x5 then (if 0 ≤ x6 then (if x6 < (x0.size : Int) then (if (bt x0 x6) ≥ 128 then (some false) else (spec_ascii.l0 k x0 x5 (wrap64 (x6 + 1)))) else (none)) else (none)) else (some true)
def spec_ascii.f (k : Nat) (a0 : ByteArray) : Option (Bool) := spec_ascii.l0 k a0 (a0.size : Int) 0
theorem spec_ascii.mono_l : ∀ k, (∀ y0 y1 y2, LeO (spec_ascii.l0 k y0 y1 y2) (spec_ascii.l0 (k + 1) y0 y1 y2))
  | 0 => fun _ _ _ r h => by simp [spec_ascii.l0] at h
  | k + 1 => by
    have ih0 := spec_ascii.mono_l k
    · intro y0 y1 y2
      unfold spec_ascii.l0
      repeat' first
      | (with_reducible exact ih0 _ _ _)
      | (with_reducible exact LeO.refl _)
      | (with_reducible exact LeO.none _)
      | (with_reducible refine LeO.ite ?_ ?_)
      | (with_reducible refine LeO.bind ?_ (fun _ => ?_))
      | exact ih0 _ _ _
      | exact LeO.none _
      | refine LeO.ite ?_ ?_
      | refine LeO.bind ?_ (fun _ => ?_)
theorem spec_ascii.mono : ∀ a0 k, LeO (spec_ascii.f k a0) (spec_ascii.f (k + 1) a0) := by
  intro a0 k
  have ih0 := spec_ascii.mono_l k
  unfold spec_ascii.f
  repeat' first
      | (with_reducible exact ih0 _ _ _)
      | (with_reducible exact LeO.refl _)
      | (with_reducible exact LeO.none _)
      | (with_reducible refine LeO.ite ?_ ?_)
      | (with_reducible refine LeO.bind ?_ (fun _ => ?_))
      | exact ih0 _ _ _
      | exact LeO.none _
      | refine LeO.ite ?_ ?_
      | refine LeO.bind ?_ (fun _ => ?_)
set_option maxHeartbeats 8000000 in
set_option maxRecDepth 100000 in
theorem spec_ascii.calls (k : Nat) (a0 : ByteArray) (r : Bool) (w : World) (h : spec_ascii.f k a0 = some r) :
    Calls Tryz.prog 9 #[.string a0] w fun e w' => e = .returned (.bool r) ∧ Drawn0 w w' := by
  have H : (spec_ascii.l0 k a0 (a0.size : Int) 0) = some r := h
  clear h
  have H' := Aside0.mk H
  clear H
  go_enter Tryz.func9, Tryz.ntmps9
  go_wp2
  go_loopg [6] k (fun kq v6 w' => ∃ (x6_1 : Int), v6 = .int .i64 x6_1 ∧ Aside0 (spec_ascii.l0 kq a0 (a0.size : Int) x6_1 = some r) ∧ Aside0 (kq ≤ k) ∧ Drawn0 w w')
  case atStart => exact ⟨(0), (by first | rfl | (simp; done) | (simp [*]; done)), H', ⟨Nat.le_refl _⟩, by repeat (first | exact Drawn0.refl _ | apply Drawn0.step)⟩
  case round =>
    clear H'
    obtain ⟨x6_1, rfl, HA, HK1, ⟨m1, rfl⟩⟩ := hrel
    cases gk with
    | zero => exact absurd HA.out (by simp [spec_ascii.l0])
    | succ k1 =>
      have H := HA.out
      clear HA
      simp only [spec_ascii.l0] at H
      by_cases c2 : x6_1 < (a0.size : Int)
      · rw [if_pos c2] at H
        have c2b0 : decide (x6_1 < (a0.size : Int)) = true := decide_eq_true c2
        clear c2
        by_cases c3 : 0 ≤ x6_1
        · rw [if_pos c3] at H
          have c3b0 : decide (0 ≤ x6_1) = true := decide_eq_true c3
          clear c3
          by_cases c4 : x6_1 < (a0.size : Int)
          · rw [if_pos c4] at H
            have c4b0 : decide (x6_1 < (a0.size : Int)) = true := decide_eq_true c4
            clear c4
            by_cases c6 : (bt a0 x6_1) ≥ 128
            · rw [if_pos c6] at H
              have c6b0 : decide (128 ≤ (bt a0 x6_1)) = true := decide_eq_true c6
              clear c6
              as_aux_lemma =>
                obtain rfl := Option.some.inj H
                have p5 : 0 ≤ (x6_1 : Int) := of_decide_eq_true (by first | (with_reducible assumption) | assumption)
                have q5 : x6_1 < (a0.size : Int) := of_decide_eq_true (by first | (with_reducible assumption) | assumption)
                have hx5 := bt_at a0 x6_1
                replace p5 := eq_true p5
                replace q5 := eq_true q5
                go_wp2
                go_ret
                exact ⟨by first | rfl | (simp; done) | (simp [*]; done), by repeat (first | exact Drawn0.refl _ | apply Drawn0.step)⟩
            · rw [if_neg c6] at H
              have c6b0 : decide (128 ≤ (bt a0 x6_1)) = false := decide_eq_false c6
              clear c6
              as_aux_lemma =>
                have H' := Aside0.mk H
                clear H
                have p5 : 0 ≤ (x6_1 : Int) := of_decide_eq_true (by first | (with_reducible assumption) | assumption)
                have q5 : x6_1 < (a0.size : Int) := of_decide_eq_true (by first | (with_reducible assumption) | assumption)
                have hx5 := bt_at a0 x6_1
                replace p5 := eq_true p5
                replace q5 := eq_true q5
                go_wp2
                go_roundg k1
                case measure => have := HK1.out; omega
                case rel => exact ⟨(wrap64 (x6_1 + 1)), (by first | rfl | (simp; done) | (simp [*]; done)), H', ⟨by have := HK1.out; omega⟩, by repeat (first | exact Drawn0.refl _ | apply Drawn0.step)⟩
          · rw [if_neg c4] at H
            exact absurd H (by simp)
        · rw [if_neg c3] at H
          exact absurd H (by simp)
      · rw [if_neg c2] at H
        have c2b0 : decide (x6_1 < (a0.size : Int)) = false := decide_eq_false c2
        clear c2
        as_aux_lemma =>
          obtain rfl := Option.some.inj H
          go_wp2
          go_ret
          exact ⟨by first | rfl | (simp; done) | (simp [*]; done), by repeat (first | exact Drawn0.refl _ | apply Drawn0.step)⟩

/-! ### spec_ASCII: function 4 -/
def spec_ASCII.f (k : Nat) (a0 : ByteArray) : Option (Bool) := (spec_ascii.f k a0).bind fun t101 => (some t101)
theorem spec_ASCII.mono : ∀ a0 k, LeO (spec_ASCII.f k a0) (spec_ASCII.f (k + 1) a0) := by
  intro a0 k
  unfold spec_ASCII.f
  repeat' first
      | (with_reducible exact spec_ascii.mono _ _)
      | (with_reducible exact LeO.refl _)
      | (with_reducible exact LeO.none _)
      | (with_reducible refine LeO.ite ?_ ?_)
      | (with_reducible refine LeO.bind ?_ (fun _ => ?_))
      | exact spec_ascii.mono _ _
      | exact LeO.none _
      | refine LeO.ite ?_ ?_
      | refine LeO.bind ?_ (fun _ => ?_)
set_option maxHeartbeats 8000000 in
set_option maxRecDepth 100000 in
theorem spec_ASCII.calls (k : Nat) (a0 : ByteArray) (r : Bool) (w : World) (h : spec_ASCII.f k a0 = some r) :
    Calls Tryz.prog 4 #[.string a0] w fun e w' => e = .returned (.bool r) ∧ Drawn0 w w' := by
  have H : ((spec_ascii.f k a0).bind fun t101 => (some t101)) = some r := h
  clear h
  replace H := Option.bind_eq_some_iff.mp H
  obtain ⟨t101, A20, H⟩ := H
  replace H : (some t101) = some r := H
  have A2 := Aside0.mk A20
  clear A20
  as_aux_lemma =>
    obtain rfl := Option.some.inj H
    go_enter Tryz.func4, Tryz.ntmps4
    go_wp2_with (first | ((with_reducible refine gate_callee (f := 9) rfl ?_); refine goesL_ (some 4) rfl rfl Tryz.func9 (by kernel_rfl) rfl #[.string a0] rfl (by (try simp only [List.map_toArray, List.map_cons, List.map_nil]); first | done | rfl | (simp only [List.length_drop, List.length_take]; rfl)) ?_; (with_reducible refine (spec_ascii.calls k a0 t101 _ A2.out).mono ?_); rintro e w' ⟨rfl, ⟨nd, rfl⟩⟩; refine ⟨_, rfl, ?_⟩))
    go_ret
    exact ⟨by first | rfl | (simp; done) | (simp [*]; done), by repeat (first | exact Drawn0.refl _ | apply Drawn0.step)⟩

/-! ### spec_isSpace: function 10 -/
def spec_isSpace.f (a0 : Int) : Option (Bool) := if a0 = 32 then (some true) else (if a0 ≥ 9 then (some (decide (a0 ≤ 13))) else (some false))
set_option maxHeartbeats 8000000 in
set_option maxRecDepth 100000 in
theorem spec_isSpace.calls (a0 : Int) (r : Bool) (w : World) (h : spec_isSpace.f a0 = some r) :
    Calls Tryz.prog 10 #[.int .u8 a0] w fun e w' => e = .returned (.bool r) ∧ Drawn0 w w' := by
  have H : (if a0 = 32 then (some true) else (if a0 ≥ 9 then (some (decide (a0 ≤ 13))) else (some false))) = some r := h
  clear h
  by_cases c2 : a0 = 32
  · rw [if_pos c2] at H
    have c2b0 : (a0 == 32) = true := beq_iff_eq.mpr c2
    have c2b1 : (a0 != 32) = false := bne_eq_false_iff_eq.mpr c2
    clear c2
    as_aux_lemma =>
      obtain rfl := Option.some.inj H
      go_enter Tryz.func10, Tryz.ntmps10
      go_wp2
      go_ret
      exact ⟨by first | rfl | (simp; done) | (simp [*]; done), by repeat (first | exact Drawn0.refl _ | apply Drawn0.step)⟩
  · rw [if_neg c2] at H
    have c2b0 : (a0 == 32) = false := beq_eq_false_iff_ne.mpr c2
    have c2b1 : (a0 != 32) = true := bne_iff_ne.mpr c2
    by_cases c3 : a0 ≥ 9
    · rw [if_pos c3] at H
      have c3b0 : decide (9 ≤ a0) = true := decide_eq_true c3
      clear c3
      as_aux_lemma =>
        obtain rfl := Option.some.inj H
        go_enter Tryz.func10, Tryz.ntmps10
        go_wp2
        go_ret
        exact ⟨by first | rfl | (simp; done) | (simp [*]; done), by repeat (first | exact Drawn0.refl _ | apply Drawn0.step)⟩
    · rw [if_neg c3] at H
      have c3b0 : decide (9 ≤ a0) = false := decide_eq_false c3
      clear c3
      as_aux_lemma =>
        obtain rfl := Option.some.inj H
        go_enter Tryz.func10, Tryz.ntmps10
        go_wp2
        go_ret
        exact ⟨by first | rfl | (simp; done) | (simp [*]; done), by repeat (first | exact Drawn0.refl _ | apply Drawn0.step)⟩

/-! ### math_NaN: function 15 -/
def math_NaN.f  : Option (Nat) := some 9221120237041090561
set_option maxHeartbeats 8000000 in
set_option maxRecDepth 100000 in
theorem math_NaN.calls  (r : Nat) (w : World) (h : math_NaN.f  = some r) :
    Calls Tryz.prog 15 #[] w fun e w' => e = .returned (.float .f64 r) ∧ Drawn0 w w' := by
  have hext7 := ext7
  have H : (some 9221120237041090561) = some r := h
  clear h
  as_aux_lemma =>
    obtain rfl := Option.some.inj H
    go_enter Tryz.func15, Tryz.ntmps15
    go_wp2
    go_ret
    exact ⟨by first | rfl | (simp; done) | (simp [*]; done), by repeat (first | exact Drawn0.refl _ | apply Drawn0.step)⟩

/-! ### spec_hexadecimal: function 11 -/
mutual
def spec_hexadecimal.l0 : Nat → ByteArray → Int → Int → Int → Option (Nat × Bool)
  | 0, _, _, _, _ => none
  | k + 1, x0, x4, x8, x9 => if x9 < x8 then (if 0 ≤ x9 then (if x9 < (x0.size : Int) then (if (bt x0 x9) ≥ 48 then (spec_hexadecimal.j1 k x0 x4 x9 (IntKind.u64.wrap (Go.bits .or .u8 (bt x0 x9) 32)) x8 x9 (decide ((bt x0 x9) ≤ 57))) else (spec_hexadecimal.j1 k x0 x4 x9 (IntKind.u64.wrap (Go.bits .or .u8 (bt x0 x9) 32)) x8 x9 false)) else (none)) else (none)) else (some (floatOfInt .f64 x4, true))
def spec_hexadecimal.j1 : Nat → ByteArray → Int → Int → Int → Int → Int → Bool → Option (Nat × Bool)
  | 0, _, _, _, _, _, _, _ => none
  | k + 1, x0, x4, x5, x6, x8, x9, x32 => if x32 = true then (if 0 ≤ x5 then (if x5 < (x0.size : Int) then (if x5 ≥ 13 then (some (0, false)) else (spec_hexadecimal.l0 k x0 (Go.bits .or .u64 (IntKind.u64.wrap (x4 * 16)) (((bt x0 x5) - 48) % 256)) x8 (wrap64 (x9 + 1)))) else (none)) else (none)) else (if x6 ≥ 97 then (spec_hexadecimal.j2 k x0 x4 x5 x6 x8 x9 (decide (x6 ≤ 102))) else (spec_hexadecimal.j2 k x0 x4 x5 x6 x8 x9 false))
def spec_hexadecimal.j2 : Nat → ByteArray → Int → Int → Int → Int → Int → Bool → Option (Nat × Bool)
  | 0, _, _, _, _, _, _, _ => none
  | k + 1, x0, x4, x5, x6, x8, x9, x48 => if x48 = true then (if x5 ≥ 13 then (some (0, false)) else (spec_hexadecimal.l0 k x0 (Go.bits .or .u64 (IntKind.u64.wrap (x4 * 16)) (IntKind.u64.wrap (x6 - 87))) x8 (wrap64 (x9 + 1)))) else ((math_NaN.f).bind fun t102 => (if 0 ≤ x5 then (if x5 < (x0.size : Int) then (if (bt x0 x5) = 95 then (some (t102, false)) else (if (bt x0 x5) = 46 then (some (t102, false)) else (some (t102, (x6 != 112))))) else (none)) else (none)))
end
def spec_hexadecimal.f (k : Nat) (a0 : ByteArray) : Option (Nat × Bool) := spec_hexadecimal.l0 k a0 0 (a0.size : Int) 0
theorem spec_hexadecimal.mono_l : ∀ k, (∀ y0 y1 y2 y3, LeO (spec_hexadecimal.l0 k y0 y1 y2 y3) (spec_hexadecimal.l0 (k + 1) y0 y1 y2 y3)) ∧ (∀ y0 y1 y2 y3 y4 y5 y6, LeO (spec_hexadecimal.j1 k y0 y1 y2 y3 y4 y5 y6) (spec_hexadecimal.j1 (k + 1) y0 y1 y2 y3 y4 y5 y6)) ∧ (∀ y0 y1 y2 y3 y4 y5 y6, LeO (spec_hexadecimal.j2 k y0 y1 y2 y3 y4 y5 y6) (spec_hexadecimal.j2 (k + 1) y0 y1 y2 y3 y4 y5 y6))
  | 0 => ⟨fun _ _ _ _ r h => by simp [spec_hexadecimal.l0] at h, fun _ _ _ _ _ _ _ r h => by simp [spec_hexadecimal.j1] at h, fun _ _ _ _ _ _ _ r h => by simp [spec_hexadecimal.j2] at h⟩
  | k + 1 => by
    obtain ⟨ih0, ih1, ih2⟩ := spec_hexadecimal.mono_l k
    refine ⟨?_, ?_, ?_⟩
    · intro y0 y1 y2 y3
      unfold spec_hexadecimal.l0
      repeat' first
      | (with_reducible exact ih0 _ _ _ _)
      | (with_reducible exact ih1 _ _ _ _ _ _ _)
      | (with_reducible exact ih2 _ _ _ _ _ _ _)
      | (with_reducible exact LeO.refl _)
      | (with_reducible exact LeO.none _)
      | (with_reducible refine LeO.ite ?_ ?_)
      | (with_reducible refine LeO.bind ?_ (fun _ => ?_))
      | exact ih0 _ _ _ _
      | exact ih1 _ _ _ _ _ _ _
      | exact ih2 _ _ _ _ _ _ _
      | exact LeO.none _
      | refine LeO.ite ?_ ?_
      | refine LeO.bind ?_ (fun _ => ?_)
    · intro y0 y1 y2 y3 y4 y5 y6
      unfold spec_hexadecimal.j1
      repeat' first
      | (with_reducible exact ih0 _ _ _ _)
      | (with_reducible exact ih1 _ _ _ _ _ _ _)
      | (with_reducible exact ih2 _ _ _ _ _ _ _)
      | (with_reducible exact LeO.refl _)
      | (with_reducible exact LeO.none _)
      | (with_reducible refine LeO.ite ?_ ?_)
      | (with_reducible refine LeO.bind ?_ (fun _ => ?_))
      | exact ih0 _ _ _ _
      | exact ih1 _ _ _ _ _ _ _
      | exact ih2 _ _ _ _ _ _ _
      | exact LeO.none _
      | refine LeO.ite ?_ ?_
      | refine LeO.bind ?_ (fun _ => ?_)
    · intro y0 y1 y2 y3 y4 y5 y6
      unfold spec_hexadecimal.j2
      repeat' first
      | (with_reducible exact ih0 _ _ _ _)
      | (with_reducible exact ih1 _ _ _ _ _ _ _)
      | (with_reducible exact ih2 _ _ _ _ _ _ _)
      | (with_reducible exact LeO.refl _)
      | (with_reducible exact LeO.none _)
      | (with_reducible refine LeO.ite ?_ ?_)
      | (with_reducible refine LeO.bind ?_ (fun _ => ?_))
      | exact ih0 _ _ _ _
      | exact ih1 _ _ _ _ _ _ _
      | exact ih2 _ _ _ _ _ _ _
      | exact LeO.none _
      | refine LeO.ite ?_ ?_
      | refine LeO.bind ?_ (fun _ => ?_)
theorem spec_hexadecimal.mono : ∀ a0 k, LeO (spec_hexadecimal.f k a0) (spec_hexadecimal.f (k + 1) a0) := by
  intro a0 k
  obtain ⟨ih0, ih1, ih2⟩ := spec_hexadecimal.mono_l k
  unfold spec_hexadecimal.f
  repeat' first
      | (with_reducible exact ih0 _ _ _ _)
      | (with_reducible exact ih1 _ _ _ _ _ _ _)
      | (with_reducible exact ih2 _ _ _ _ _ _ _)
      | (with_reducible exact LeO.refl _)
      | (with_reducible exact LeO.none _)
      | (with_reducible refine LeO.ite ?_ ?_)
      | (with_reducible refine LeO.bind ?_ (fun _ => ?_))
      | exact ih0 _ _ _ _
      | exact ih1 _ _ _ _ _ _ _
      | exact ih2 _ _ _ _ _ _ _
      | exact LeO.none _
      | refine LeO.ite ?_ ?_
      | refine LeO.bind ?_ (fun _ => ?_)
set_option maxHeartbeats 8000000 in
set_option maxRecDepth 100000 in
theorem spec_hexadecimal.calls (k : Nat) (a0 : ByteArray) (r1 : Nat) (r2 : Bool) (w : World) (h : spec_hexadecimal.f k a0 = some (r1, r2)) :
    Calls Tryz.prog 11 #[.string a0] w fun e w' => e = .returned (.tuple #[.float .f64 r1, .bool r2]) ∧ Drawn0 w w' := by
  have H : (spec_hexadecimal.l0 k a0 0 (a0.size : Int) 0) = some (r1, r2) := h
  clear h
  have H' := Aside0.mk H
  clear H
  go_enter Tryz.func11, Tryz.ntmps11
  go_wp2
  repeat (go_quiet (fail); try go_wp2)
  go_loopg [4, 9] k (fun kq v4 v9 w' => ∃ (x4_1 : Int) (x9_1 : Int), v4 = .int .u64 x4_1 ∧ v9 = .int .i64 x9_1 ∧ Aside0 (spec_hexadecimal.l0 kq a0 x4_1 (a0.size : Int) x9_1 = some (r1, r2)) ∧ Aside0 (kq ≤ k) ∧ Drawn0 w w')
  case atStart => exact ⟨(0), (0), (by first | rfl | (simp; done) | (simp [*]; done)), (by first | rfl | (simp; done) | (simp [*]; done)), H', ⟨Nat.le_refl _⟩, by repeat (first | exact Drawn0.refl _ | apply Drawn0.step)⟩
  case round =>
    clear H'
    try clear c1
    obtain ⟨x4_1, x9_1, rfl, rfl, HA, HK1, ⟨m1, rfl⟩⟩ := hrel
    cases gk with
    | zero => exact absurd HA.out (by simp [spec_hexadecimal.l0])
    | succ k1 =>
      have H := HA.out
      clear HA
      simp only [spec_hexadecimal.l0] at H
      by_cases c2 : x9_1 < (a0.size : Int)
      · rw [if_pos c2] at H
        have c2b0 : decide (x9_1 < (a0.size : Int)) = true := decide_eq_true c2
        clear c2
        by_cases c3 : 0 ≤ x9_1
        · rw [if_pos c3] at H
          have c3b0 : decide (0 ≤ x9_1) = true := decide_eq_true c3
          clear c3
          by_cases c4 : x9_1 < (a0.size : Int)
          · rw [if_pos c4] at H
            have c4b0 : decide (x9_1 < (a0.size : Int)) = true := decide_eq_true c4
            clear c4
            have HC6 := Aside0.mk H
            clear H
            have p5 : 0 ≤ (x9_1 : Int) := of_decide_eq_true (by first | (with_reducible assumption) | assumption)
            have q5 : x9_1 < (a0.size : Int) := of_decide_eq_true (by first | (with_reducible assumption) | assumption)
            have hx5 := bt_at a0 x9_1
            replace p5 := eq_true p5
            replace q5 := eq_true q5
            go_upto_region 7 with (fail)
            repeat (go_quiet (fail); go_upto_region 7 with (fail))
            go_cut [32] (fun v32 wc => ∃ (kq : Nat) (x32_5 : Bool), v32 = .bool x32_5 ∧ Aside0 (spec_hexadecimal.j1 kq a0 x4_1 x9_1 (IntKind.u64.wrap (Go.bits .or .u8 (bt a0 x9_1) 32)) (a0.size : Int) x9_1 x32_5 = some (r1, r2)) ∧ Aside0 (kq ≤ k1) ∧ Drawn0 w wc)
            case first =>
              have H := HC6.out
              clear HC6
              by_cases c8 : (bt a0 x9_1) ≥ 48
              · rw [if_pos c8] at H
                have c8b0 : decide (48 ≤ (bt a0 x9_1)) = true := decide_eq_true c8
                clear c8
                (first | rw [c8b0] | (simp only [i64_w, i32_w]; rw [c8b0]) | skip)
                as_aux_lemma =>
                  have H' := Aside0.mk H
                  clear H
                  have p7 : 0 ≤ (x9_1 : Int) := of_decide_eq_true (by first | (with_reducible assumption) | assumption)
                  have q7 : x9_1 < (a0.size : Int) := of_decide_eq_true (by first | (with_reducible assumption) | assumption)
                  have hx7 := bt_at a0 x9_1
                  replace p7 := eq_true p7
                  replace q7 := eq_true q7
                  have p9 : 0 ≤ (x9_1 : Int) := of_decide_eq_true (by first | (with_reducible assumption) | assumption)
                  have q9 : x9_1 < (a0.size : Int) := of_decide_eq_true (by first | (with_reducible assumption) | assumption)
                  have hx9 := bt_at a0 x9_1
                  replace p9 := eq_true p9
                  replace q9 := eq_true q9
                  go_wp2
                  repeat (go_quiet (fail); try go_wp2)
                  go_meet
                  case rel => exact ⟨_, (decide ((bt a0 x9_1) ≤ 57)), (by first | rfl | (simp; done) | (simp [*]; done)), H', ⟨by have := HK1.out; first | omega | exact Nat.le_refl _⟩, by repeat (first | exact Drawn0.refl _ | apply Drawn0.step)⟩
              · rw [if_neg c8] at H
                have c8b0 : decide (48 ≤ (bt a0 x9_1)) = false := decide_eq_false c8
                clear c8
                (first | rw [c8b0] | (simp only [i64_w, i32_w]; rw [c8b0]) | skip)
                as_aux_lemma =>
                  have H' := Aside0.mk H
                  clear H
                  have p7 : 0 ≤ (x9_1 : Int) := of_decide_eq_true (by first | (with_reducible assumption) | assumption)
                  have q7 : x9_1 < (a0.size : Int) := of_decide_eq_true (by first | (with_reducible assumption) | assumption)
                  have hx7 := bt_at a0 x9_1
                  replace p7 := eq_true p7
                  replace q7 := eq_true q7
                  go_wp2
                  repeat (go_quiet (fail); try go_wp2)
                  go_meet
                  case rel => exact ⟨_, (false), (by first | rfl | (simp; done) | (simp [*]; done)), H', ⟨by have := HK1.out; first | omega | exact Nat.le_refl _⟩, by repeat (first | exact Drawn0.refl _ | apply Drawn0.step)⟩
            case rest =>
              clear HC6
              try clear c1
              try clear c2
              try clear c2b0
              try clear p2
              try clear c3
              try clear c3b0
              try clear c4
              try clear c4b0
              try clear p5
              try clear q5
              try clear hx5
              try clear p7
              try clear q7
              try clear hx7
              try clear c8
              try clear c8b0
              try clear p9
              try clear q9
              try clear hx9
              try clear p5
              try clear p7
              try clear p9
              try clear q5
              try clear q7
              try clear q9
              obtain ⟨kq, x32_5, rfl, HA, HJ5, ⟨mc5, rfl⟩⟩ := hcut
              cases kq with
              | zero => exact absurd HA.out (by simp [spec_hexadecimal.j1])
              | succ kj5 =>
                have H := HA.out
                clear HA
                simp only [spec_hexadecimal.j1] at H
                by_cases c10 : x32_5 = true
                · subst c10
                  have H1 : (if 0 ≤ x9_1 then (if x9_1 < (a0.size : Int) then (if x9_1 ≥ 13 then (some (0, false)) else (spec_hexadecimal.l0 kj5 a0 (Go.bits .or .u64 (IntKind.u64.wrap (x4_1 * 16)) (((bt a0 x9_1) - 48) % 256)) (a0.size : Int) (wrap64 (x9_1 + 1)))) else (none)) else (none)) = some (r1, r2) := by rw [if_pos rfl] at H; exact H
                  clear H
                  have H := H1
                  clear H1
                  by_cases c11 : 0 ≤ x9_1
                  · rw [if_pos c11] at H
                    have c11b0 : decide (0 ≤ x9_1) = true := decide_eq_true c11
                    clear c11
                    by_cases c12 : x9_1 < (a0.size : Int)
                    · rw [if_pos c12] at H
                      have c12b0 : decide (x9_1 < (a0.size : Int)) = true := decide_eq_true c12
                      clear c12
                      by_cases c14 : x9_1 ≥ 13
                      · rw [if_pos c14] at H
                        have c14b0 : decide (13 ≤ x9_1) = true := decide_eq_true c14
                        clear c14
                        as_aux_lemma =>
                          simp only [Option.some.injEq, Prod.mk.injEq] at H
                          obtain ⟨rfl, rfl⟩ := H
                          have p13 : 0 ≤ (x9_1 : Int) := of_decide_eq_true (by first | (with_reducible assumption) | assumption)
                          have q13 : x9_1 < (a0.size : Int) := of_decide_eq_true (by first | (with_reducible assumption) | assumption)
                          have hx13 := bt_at a0 x9_1
                          replace p13 := eq_true p13
                          replace q13 := eq_true q13
                          go_wp2
                          repeat (go_quiet (fail); try go_wp2)
                          go_ret2
                          exact ⟨by first | rfl | (simp; done) | (simp [*]; done), by repeat (first | exact Drawn0.refl _ | apply Drawn0.step)⟩
                      · rw [if_neg c14] at H
                        have c14b0 : decide (13 ≤ x9_1) = false := decide_eq_false c14
                        clear c14
                        as_aux_lemma =>
                          have H' := Aside0.mk H
                          clear H
                          have p13 : 0 ≤ (x9_1 : Int) := of_decide_eq_true (by first | (with_reducible assumption) | assumption)
                          have q13 : x9_1 < (a0.size : Int) := of_decide_eq_true (by first | (with_reducible assumption) | assumption)
                          have hx13 := bt_at a0 x9_1
                          replace p13 := eq_true p13
                          replace q13 := eq_true q13
                          go_wp2
                          repeat (go_quiet (fail); try go_wp2)
                          go_roundg kj5
                          case measure => have := HK1.out; have := HJ5.out; omega
                          case rel => exact ⟨(Go.bits .or .u64 (IntKind.u64.wrap (x4_1 * 16)) (((bt a0 x9_1) - 48) % 256)), (wrap64 (x9_1 + 1)), (by first | rfl | (simp; done) | (simp [*]; done)), (by first | rfl | (simp; done) | (simp [*]; done)), H', ⟨by have := HK1.out; have := HJ5.out; omega⟩, by repeat (first | exact Drawn0.refl _ | apply Drawn0.step)⟩
                    · rw [if_neg c12] at H
                      exact absurd H (by simp)
                  · rw [if_neg c11] at H
                    exact absurd H (by simp)
                · replace c10 := Bool.eq_false_iff.mpr c10
                  subst c10
                  have H1 : (if (IntKind.u64.wrap (Go.bits .or .u8 (bt a0 x9_1) 32)) ≥ 97 then (spec_hexadecimal.j2 kj5 a0 x4_1 x9_1 (IntKind.u64.wrap (Go.bits .or .u8 (bt a0 x9_1) 32)) (a0.size : Int) x9_1 (decide ((IntKind.u64.wrap (Go.bits .or .u8 (bt a0 x9_1) 32)) ≤ 102))) else (spec_hexadecimal.j2 kj5 a0 x4_1 x9_1 (IntKind.u64.wrap (Go.bits .or .u8 (bt a0 x9_1) 32)) (a0.size : Int) x9_1 false)) = some (r1, r2) := by rw [if_neg (show ¬ (false = true) by decide)] at H; exact H
                  clear H
                  have H := H1
                  clear H1
                  have HC15 := Aside0.mk H
                  clear H
                  go_upto_region 9 with (fail)
                  repeat (go_quiet (fail); go_upto_region 9 with (fail))
                  go_cut [48] (fun v48 wc => ∃ (kq : Nat) (x48_14 : Bool), v48 = .bool x48_14 ∧ Aside0 (spec_hexadecimal.j2 kq a0 x4_1 x9_1 (IntKind.u64.wrap (Go.bits .or .u8 (bt a0 x9_1) 32)) (a0.size : Int) x9_1 x48_14 = some (r1, r2)) ∧ Aside0 (kq ≤ kj5) ∧ Drawn0 w wc)
                  case first =>
                    have H := HC15.out
                    clear HC15
                    by_cases c16 : (IntKind.u64.wrap (Go.bits .or .u8 (bt a0 x9_1) 32)) ≥ 97
                    · rw [if_pos c16] at H
                      have c16b0 : decide (97 ≤ (IntKind.u64.wrap (Go.bits .or .u8 (bt a0 x9_1) 32))) = true := decide_eq_true c16
                      clear c16
                      (first | rw [c16b0] | (simp only [i64_w, i32_w]; rw [c16b0]) | skip)
                      as_aux_lemma =>
                        have H' := Aside0.mk H
                        clear H
                        go_wp2
                        repeat (go_quiet (fail); try go_wp2)
                        go_meet
                        case rel => exact ⟨_, (decide ((IntKind.u64.wrap (Go.bits .or .u8 (bt a0 x9_1) 32)) ≤ 102)), (by first | rfl | (simp; done) | (simp [*]; done)), H', ⟨by have := HK1.out; have := HJ5.out; first | omega | exact Nat.le_refl _⟩, by repeat (first | exact Drawn0.refl _ | apply Drawn0.step)⟩
                    · rw [if_neg c16] at H
                      have c16b0 : decide (97 ≤ (IntKind.u64.wrap (Go.bits .or .u8 (bt a0 x9_1) 32))) = false := decide_eq_false c16
                      clear c16
                      (first | rw [c16b0] | (simp only [i64_w, i32_w]; rw [c16b0]) | skip)
                      as_aux_lemma =>
                        have H' := Aside0.mk H
                        clear H
                        go_wp2
                        repeat (go_quiet (fail); try go_wp2)
                        go_meet
                        case rel => exact ⟨_, (false), (by first | rfl | (simp; done) | (simp [*]; done)), H', ⟨by have := HK1.out; have := HJ5.out; first | omega | exact Nat.le_refl _⟩, by repeat (first | exact Drawn0.refl _ | apply Drawn0.step)⟩
                  case rest =>
                    clear HC15
                    try clear c1
                    try clear p1
                    try clear q1
                    try clear hx1
                    try clear c2
                    try clear c2b0
                    try clear p2
                    try clear c3
                    try clear c3b0
                    try clear c4
                    try clear c4b0
                    try clear c5
                    try clear p5
                    try clear q5
                    try clear hx5
                    try clear p6
                    try clear p7
                    try clear q7
                    try clear hx7
                    try clear c8
                    try clear c8b0
                    try clear p9
                    try clear q9
                    try clear hx9
                    try clear c10
                    try clear c11
                    try clear c11b0
                    try clear c12
                    try clear c12b0
                    try clear p13
                    try clear q13
                    try clear hx13
                    try clear c14
                    try clear c14b0
                    try clear c16
                    try clear c16b0
                    try clear p13
                    try clear p2
                    try clear p5
                    try clear p7
                    try clear p9
                    try clear q13
                    try clear q5
                    try clear q7
                    try clear q9
                    obtain ⟨kq, x48_14, rfl, HA, HJ14, ⟨mc14, rfl⟩⟩ := hcut
                    cases kq with
                    | zero => exact absurd HA.out (by simp [spec_hexadecimal.j2])
                    | succ kj14 =>
                      have H := HA.out
                      clear HA
                      simp only [spec_hexadecimal.j2] at H
                      by_cases c17 : x48_14 = true
                      · subst c17
                        have H1 : (if x9_1 ≥ 13 then (some (0, false)) else (spec_hexadecimal.l0 kj14 a0 (Go.bits .or .u64 (IntKind.u64.wrap (x4_1 * 16)) (IntKind.u64.wrap ((IntKind.u64.wrap (Go.bits .or .u8 (bt a0 x9_1) 32)) - 87))) (a0.size : Int) (wrap64 (x9_1 + 1)))) = some (r1, r2) := by rw [if_pos rfl] at H; exact H
                        clear H
                        have H := H1
                        clear H1
                        by_cases c18 : x9_1 ≥ 13
                        · rw [if_pos c18] at H
                          have c18b0 : decide (13 ≤ x9_1) = true := decide_eq_true c18
                          clear c18
                          as_aux_lemma =>
                            simp only [Option.some.injEq, Prod.mk.injEq] at H
                            obtain ⟨rfl, rfl⟩ := H
                            go_wp2
                            repeat (go_quiet (fail); try go_wp2)
                            go_ret2
                            exact ⟨by first | rfl | (simp; done) | (simp [*]; done), by repeat (first | exact Drawn0.refl _ | apply Drawn0.step)⟩
                        · rw [if_neg c18] at H
                          have c18b0 : decide (13 ≤ x9_1) = false := decide_eq_false c18
                          clear c18
                          as_aux_lemma =>
                            have H' := Aside0.mk H
                            clear H
                            go_wp2
                            repeat (go_quiet (fail); try go_wp2)
                            go_roundg kj14
                            case measure => have := HK1.out; have := HJ5.out; have := HJ14.out; omega
                            case rel => exact ⟨(Go.bits .or .u64 (IntKind.u64.wrap (x4_1 * 16)) (IntKind.u64.wrap ((IntKind.u64.wrap (Go.bits .or .u8 (bt a0 x9_1) 32)) - 87))), (wrap64 (x9_1 + 1)), (by first | rfl | (simp; done) | (simp [*]; done)), (by first | rfl | (simp; done) | (simp [*]; done)), H', ⟨by have := HK1.out; have := HJ5.out; have := HJ14.out; omega⟩, by repeat (first | exact Drawn0.refl _ | apply Drawn0.step)⟩
                      · replace c17 := Bool.eq_false_iff.mpr c17
                        subst c17
                        have H1 : ((math_NaN.f).bind fun t102 => (if 0 ≤ x9_1 then (if x9_1 < (a0.size : Int) then (if (bt a0 x9_1) = 95 then (some (t102, false)) else (if (bt a0 x9_1) = 46 then (some (t102, false)) else (some (t102, ((IntKind.u64.wrap (Go.bits .or .u8 (bt a0 x9_1) 32)) != 112))))) else (none)) else (none))) = some (r1, r2) := by rw [if_neg (show ¬ (false = true) by decide)] at H; exact H
                        clear H
                        have H := H1
                        clear H1
                        replace H := Option.bind_eq_some_iff.mp H
                        obtain ⟨t102, A190, H⟩ := H
                        replace H : (if 0 ≤ x9_1 then (if x9_1 < (a0.size : Int) then (if (bt a0 x9_1) = 95 then (some (t102, false)) else (if (bt a0 x9_1) = 46 then (some (t102, false)) else (some (t102, ((IntKind.u64.wrap (Go.bits .or .u8 (bt a0 x9_1) 32)) != 112))))) else (none)) else (none)) = some (r1, r2) := H
                        have A19 := Aside0.mk A190
                        clear A190
                        by_cases c20 : 0 ≤ x9_1
                        · rw [if_pos c20] at H
                          have c20b0 : decide (0 ≤ x9_1) = true := decide_eq_true c20
                          clear c20
                          by_cases c21 : x9_1 < (a0.size : Int)
                          · rw [if_pos c21] at H
                            have c21b0 : decide (x9_1 < (a0.size : Int)) = true := decide_eq_true c21
                            clear c21
                            by_cases c23 : (bt a0 x9_1) = 95
                            · rw [if_pos c23] at H
                              have c23b0 : ((bt a0 x9_1) == 95) = true := beq_iff_eq.mpr c23
                              have c23b1 : ((bt a0 x9_1) != 95) = false := bne_eq_false_iff_eq.mpr c23
                              clear c23
                              as_aux_lemma =>
                                simp only [Option.some.injEq, Prod.mk.injEq] at H
                                obtain ⟨rfl, rfl⟩ := H
                                go_wp2_with (first | (go_at_call 15; (with_reducible refine (math_NaN.calls  t102 _ A19.out).mono ?_); rintro e w' ⟨rfl, ⟨nd, rfl⟩⟩; (try first | exact ⟨rfl, _, World.drewN_drewN _ _ _⟩ | exact ⟨rfl, _, Eq.trans (World.drewN_drewN _ _ _) (congrArg (World.drewN _) (Nat.add_assoc _ _ _))⟩); have p22 : 0 ≤ (x9_1 : Int) := of_decide_eq_true (by first | (with_reducible assumption) | assumption); have q22 : x9_1 < (a0.size : Int) := of_decide_eq_true (by first | (with_reducible assumption) | assumption); have hx22 := bt_at a0 x9_1; replace p22 := eq_true p22; replace q22 := eq_true q22))
                                repeat (go_quiet (first | (go_at_call 15; (with_reducible refine (math_NaN.calls  t102 _ A19.out).mono ?_); rintro e w' ⟨rfl, ⟨nd, rfl⟩⟩; (try first | exact ⟨rfl, _, World.drewN_drewN _ _ _⟩ | exact ⟨rfl, _, Eq.trans (World.drewN_drewN _ _ _) (congrArg (World.drewN _) (Nat.add_assoc _ _ _))⟩); have p22 : 0 ≤ (x9_1 : Int) := of_decide_eq_true (by first | (with_reducible assumption) | assumption); have q22 : x9_1 < (a0.size : Int) := of_decide_eq_true (by first | (with_reducible assumption) | assumption); have hx22 := bt_at a0 x9_1; replace p22 := eq_true p22; replace q22 := eq_true q22)); try go_wp2_with (first | (go_at_call 15; (with_reducible refine (math_NaN.calls  t102 _ A19.out).mono ?_); rintro e w' ⟨rfl, ⟨nd, rfl⟩⟩; (try first | exact ⟨rfl, _, World.drewN_drewN _ _ _⟩ | exact ⟨rfl, _, Eq.trans (World.drewN_drewN _ _ _) (congrArg (World.drewN _) (Nat.add_assoc _ _ _))⟩); have p22 : 0 ≤ (x9_1 : Int) := of_decide_eq_true (by first | (with_reducible assumption) | assumption); have q22 : x9_1 < (a0.size : Int) := of_decide_eq_true (by first | (with_reducible assumption) | assumption); have hx22 := bt_at a0 x9_1; replace p22 := eq_true p22; replace q22 := eq_true q22)))
                                go_ret2
                                exact ⟨by first | rfl | (simp; done) | (simp [*]; done), by repeat (first | exact Drawn0.refl _ | apply Drawn0.step)⟩
                            · rw [if_neg c23] at H
                              have c23b0 : ((bt a0 x9_1) == 95) = false := beq_eq_false_iff_ne.mpr c23
                              have c23b1 : ((bt a0 x9_1) != 95) = true := bne_iff_ne.mpr c23
                              by_cases c25 : (bt a0 x9_1) = 46
                              · rw [if_pos c25] at H
                                have c25b0 : ((bt a0 x9_1) == 46) = true := beq_iff_eq.mpr c25
                                have c25b1 : ((bt a0 x9_1) != 46) = false := bne_eq_false_iff_eq.mpr c25
                                clear c25
                                as_aux_lemma =>
                                  simp only [Option.some.injEq, Prod.mk.injEq] at H
                                  obtain ⟨rfl, rfl⟩ := H
                                  go_wp2_with (first | (go_at_call 15; (with_reducible refine (math_NaN.calls  t102 _ A19.out).mono ?_); rintro e w' ⟨rfl, ⟨nd, rfl⟩⟩; (try first | exact ⟨rfl, _, World.drewN_drewN _ _ _⟩ | exact ⟨rfl, _, Eq.trans (World.drewN_drewN _ _ _) (congrArg (World.drewN _) (Nat.add_assoc _ _ _))⟩); have p22 : 0 ≤ (x9_1 : Int) := of_decide_eq_true (by first | (with_reducible assumption) | assumption); have q22 : x9_1 < (a0.size : Int) := of_decide_eq_true (by first | (with_reducible assumption) | assumption); have hx22 := bt_at a0 x9_1; replace p22 := eq_true p22; replace q22 := eq_true q22; have p24 : 0 ≤ (x9_1 : Int) := of_decide_eq_true (by first | (with_reducible assumption) | assumption); have q24 : x9_1 < (a0.size : Int) := of_decide_eq_true (by first | (with_reducible assumption) | assumption); have hx24 := bt_at a0 x9_1; replace p24 := eq_true p24; replace q24 := eq_true q24))
                                  repeat (go_quiet (first | (go_at_call 15; (with_reducible refine (math_NaN.calls  t102 _ A19.out).mono ?_); rintro e w' ⟨rfl, ⟨nd, rfl⟩⟩; (try first | exact ⟨rfl, _, World.drewN_drewN _ _ _⟩ | exact ⟨rfl, _, Eq.trans (World.drewN_drewN _ _ _) (congrArg (World.drewN _) (Nat.add_assoc _ _ _))⟩); have p22 : 0 ≤ (x9_1 : Int) := of_decide_eq_true (by first | (with_reducible assumption) | assumption); have q22 : x9_1 < (a0.size : Int) := of_decide_eq_true (by first | (with_reducible assumption) | assumption); have hx22 := bt_at a0 x9_1; replace p22 := eq_true p22; replace q22 := eq_true q22; have p24 : 0 ≤ (x9_1 : Int) := of_decide_eq_true (by first | (with_reducible assumption) | assumption); have q24 : x9_1 < (a0.size : Int) := of_decide_eq_true (by first | (with_reducible assumption) | assumption); have hx24 := bt_at a0 x9_1; replace p24 := eq_true p24; replace q24 := eq_true q24)); try go_wp2_with (first | (go_at_call 15; (with_reducible refine (math_NaN.calls  t102 _ A19.out).mono ?_); rintro e w' ⟨rfl, ⟨nd, rfl⟩⟩; (try first | exact ⟨rfl, _, World.drewN_drewN _ _ _⟩ | exact ⟨rfl, _, Eq.trans (World.drewN_drewN _ _ _) (congrArg (World.drewN _) (Nat.add_assoc _ _ _))⟩); have p22 : 0 ≤ (x9_1 : Int) := of_decide_eq_true (by first | (with_reducible assumption) | assumption); have q22 : x9_1 < (a0.size : Int) := of_decide_eq_true (by first | (with_reducible assumption) | assumption); have hx22 := bt_at a0 x9_1; replace p22 := eq_true p22; replace q22 := eq_true q22; have p24 : 0 ≤ (x9_1 : Int) := of_decide_eq_true (by first | (with_reducible assumption) | assumption); have q24 : x9_1 < (a0.size : Int) := of_decide_eq_true (by first | (with_reducible assumption) | assumption); have hx24 := bt_at a0 x9_1; replace p24 := eq_true p24; replace q24 := eq_true q24)))
                                  go_ret2
                                  exact ⟨by first | rfl | (simp; done) | (simp [*]; done), by repeat (first | exact Drawn0.refl _ | apply Drawn0.step)⟩
                              · rw [if_neg c25] at H
                                have c25b0 : ((bt a0 x9_1) == 46) = false := beq_eq_false_iff_ne.mpr c25
                                have c25b1 : ((bt a0 x9_1) != 46) = true := bne_iff_ne.mpr c25
                                as_aux_lemma =>
                                  simp only [Option.some.injEq, Prod.mk.injEq] at H
                                  obtain ⟨rfl, rfl⟩ := H
                                  go_wp2_with (first | (go_at_call 15; (with_reducible refine (math_NaN.calls  t102 _ A19.out).mono ?_); rintro e w' ⟨rfl, ⟨nd, rfl⟩⟩; (try first | exact ⟨rfl, _, World.drewN_drewN _ _ _⟩ | exact ⟨rfl, _, Eq.trans (World.drewN_drewN _ _ _) (congrArg (World.drewN _) (Nat.add_assoc _ _ _))⟩); have p22 : 0 ≤ (x9_1 : Int) := of_decide_eq_true (by first | (with_reducible assumption) | assumption); have q22 : x9_1 < (a0.size : Int) := of_decide_eq_true (by first | (with_reducible assumption) | assumption); have hx22 := bt_at a0 x9_1; replace p22 := eq_true p22; replace q22 := eq_true q22; have p24 : 0 ≤ (x9_1 : Int) := of_decide_eq_true (by first | (with_reducible assumption) | assumption); have q24 : x9_1 < (a0.size : Int) := of_decide_eq_true (by first | (with_reducible assumption) | assumption); have hx24 := bt_at a0 x9_1; replace p24 := eq_true p24; replace q24 := eq_true q24))
                                  repeat (go_quiet (first | (go_at_call 15; (with_reducible refine (math_NaN.calls  t102 _ A19.out).mono ?_); rintro e w' ⟨rfl, ⟨nd, rfl⟩⟩; (try first | exact ⟨rfl, _, World.drewN_drewN _ _ _⟩ | exact ⟨rfl, _, Eq.trans (World.drewN_drewN _ _ _) (congrArg (World.drewN _) (Nat.add_assoc _ _ _))⟩); have p22 : 0 ≤ (x9_1 : Int) := of_decide_eq_true (by first | (with_reducible assumption) | assumption); have q22 : x9_1 < (a0.size : Int) := of_decide_eq_true (by first | (with_reducible assumption) | assumption); have hx22 := bt_at a0 x9_1; replace p22 := eq_true p22; replace q22 := eq_true q22; have p24 : 0 ≤ (x9_1 : Int) := of_decide_eq_true (by first | (with_reducible assumption) | assumption); have q24 : x9_1 < (a0.size : Int) := of_decide_eq_true (by first | (with_reducible assumption) | assumption); have hx24 := bt_at a0 x9_1; replace p24 := eq_true p24; replace q24 := eq_true q24)); try go_wp2_with (first | (go_at_call 15; (with_reducible refine (math_NaN.calls  t102 _ A19.out).mono ?_); rintro e w' ⟨rfl, ⟨nd, rfl⟩⟩; (try first | exact ⟨rfl, _, World.drewN_drewN _ _ _⟩ | exact ⟨rfl, _, Eq.trans (World.drewN_drewN _ _ _) (congrArg (World.drewN _) (Nat.add_assoc _ _ _))⟩); have p22 : 0 ≤ (x9_1 : Int) := of_decide_eq_true (by first | (with_reducible assumption) | assumption); have q22 : x9_1 < (a0.size : Int) := of_decide_eq_true (by first | (with_reducible assumption) | assumption); have hx22 := bt_at a0 x9_1; replace p22 := eq_true p22; replace q22 := eq_true q22; have p24 : 0 ≤ (x9_1 : Int) := of_decide_eq_true (by first | (with_reducible assumption) | assumption); have q24 : x9_1 < (a0.size : Int) := of_decide_eq_true (by first | (with_reducible assumption) | assumption); have hx24 := bt_at a0 x9_1; replace p24 := eq_true p24; replace q24 := eq_true q24)))
                                  go_ret2
                                  exact ⟨by first | rfl | (simp; done) | (simp [*]; done), by repeat (first | exact Drawn0.refl _ | apply Drawn0.step)⟩
                          · rw [if_neg c21] at H
                            exact absurd H (by simp)
                        · rw [if_neg c20] at H
                          exact absurd H (by simp)
          · rw [if_neg c4] at H
            exact absurd H (by simp)
        · rw [if_neg c3] at H
          exact absurd H (by simp)
      · rw [if_neg c2] at H
        have c2b0 : decide (x9_1 < (a0.size : Int)) = false := decide_eq_false c2
        clear c2
        as_aux_lemma =>
          simp only [Option.some.injEq, Prod.mk.injEq] at H
          obtain ⟨rfl, rfl⟩ := H
          go_wp2
          repeat (go_quiet (fail); try go_wp2)
          go_ret2
          exact ⟨by first | rfl | (simp; done) | (simp [*]; done), by repeat (first | exact Drawn0.refl _ | apply Drawn0.step)⟩

/-! ### math_Inf: function 12 -/
def math_Inf.f (a0 : Int) : Option (Nat) := if a0 ≥ 0 then (some 9218868437227405312) else (some 18442240474082181120)
set_option maxHeartbeats 8000000 in
set_option maxRecDepth 100000 in
theorem math_Inf.calls (a0 : Int) (r : Nat) (w : World) (h : math_Inf.f a0 = some r) :
    Calls Tryz.prog 12 #[.int .i64 a0] w fun e w' => e = .returned (.float .f64 r) ∧ Drawn0 w w' := by
  have hext7 := ext7
  have H : (if a0 ≥ 0 then (some 9218868437227405312) else (some 18442240474082181120)) = some r := h
  clear h
  by_cases c2 : a0 ≥ 0
  · rw [if_pos c2] at H
    have c2b0 : decide (0 ≤ a0) = true := decide_eq_true c2
    clear c2
    as_aux_lemma =>
      obtain rfl := Option.some.inj H
      go_enter Tryz.func12, Tryz.ntmps12
      go_wp2
      go_ret
      exact ⟨by first | rfl | (simp; done) | (simp [*]; done), by repeat (first | exact Drawn0.refl _ | apply Drawn0.step)⟩
  · rw [if_neg c2] at H
    have c2b0 : decide (0 ≤ a0) = false := decide_eq_false c2
    clear c2
    as_aux_lemma =>
      obtain rfl := Option.some.inj H
      go_enter Tryz.func12, Tryz.ntmps12
      go_wp2
      go_ret
      exact ⟨by first | rfl | (simp; done) | (simp [*]; done), by repeat (first | exact Drawn0.refl _ | apply Drawn0.step)⟩

end Go.Proofs.YtllaepgbpmiglaaGreatDoor.QNum
