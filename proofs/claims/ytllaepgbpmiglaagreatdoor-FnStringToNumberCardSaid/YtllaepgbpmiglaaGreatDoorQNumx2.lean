-- Written by a program of this session out of the translation (a copy of the kit's print, turned). Not trusted: Lean checks it.
import Derived.Test.YtllaepgbpmiglaaGreatDoorQNumx0
import Derived.Test.YtllaepgbpmiglaaGreatDoorQNumx1
namespace Go.Proofs.YtllaepgbpmiglaaGreatDoor.QNum
open Go.RowKit Go.Proofs.YtllaepgbpmiglaaGreatDoorW.PrintWords Go.Proofs.YtllaepgbpmiglaaGreatDoorW.PrintLast Go.Proofs.YtllaepgbpmiglaaGreatDoorW.PrintMore
attribute [local go_sem] max2_int min2_int max_two min_two max_three min_three max_four min_four   -- for this text's walks alone
set_option linter.unusedVariables false
set_option linter.unusedSimpArgs false

/-! ### spec_fraction: function 13 -/
mutual
def spec_fraction.l0 : Nat → ByteArray → Int → Int → Nat → Bool → Int → Int → Option (Nat × Bool)
  | 0, _, _, _, _, _, _, _ => none
  | k + 1, x0, x4, x5, x6, x7, x12, x13 => if x13 < x12 then (if 0 ≤ x13 then (if x13 < (x0.size : Int) then (if (bt x0 x13) = 46 then (spec_fraction.j1 k x0 x4 x5 x6 x7 x13 (bt x0 x13) x12 x13 (!x7)) else (spec_fraction.j1 k x0 x4 x5 x6 x7 x13 (bt x0 x13) x12 x13 false)) else (none)) else (none)) else (if x5 = 0 then ((math_NaN.f).bind fun t103 => (some (t103, true))) else ((floatBits .quo .f64 (floatOfInt .f64 x4) x6).bind fun t104 => (some (t104, true))))
def spec_fraction.j1 : Nat → ByteArray → Int → Int → Nat → Bool → Int → Int → Int → Int → Bool → Option (Nat × Bool)
  | 0, _, _, _, _, _, _, _, _, _, _ => none
  | k + 1, x0, x4, x5, x6, x7, x8, x9, x12, x13, x59 => if x59 = true then (spec_fraction.l0 k x0 x4 x5 x6 true x12 (wrap64 (x13 + 1))) else (if x9 ≥ 48 then (spec_fraction.j2 k x0 x4 x5 x6 x7 x8 x9 x12 x13 (decide (x9 ≤ 57))) else (spec_fraction.j2 k x0 x4 x5 x6 x7 x8 x9 x12 x13 false))
def spec_fraction.j2 : Nat → ByteArray → Int → Int → Nat → Bool → Int → Int → Int → Int → Bool → Option (Nat × Bool)
  | 0, _, _, _, _, _, _, _, _, _, _ => none
  | k + 1, x0, x4, x5, x6, x7, x8, x9, x12, x13, x66 => if x66 = true then (if (wrap64 (x5 + 1)) > 15 then (some (0, false)) else (if x7 = true then ((floatBits .mul .f64 x6 4621819117588971520).bind fun t105 => (spec_fraction.l0 k x0 (IntKind.u64.wrap ((IntKind.u64.wrap (10 * x4)) + ((x9 - 48) % 256))) (wrap64 (x5 + 1)) t105 x7 x12 (wrap64 (x13 + 1)))) else (spec_fraction.l0 k x0 (IntKind.u64.wrap ((IntKind.u64.wrap (10 * x4)) + ((x9 - 48) % 256))) (wrap64 (x5 + 1)) x6 x7 x12 (wrap64 (x13 + 1))))) else (if x9 = 101 then (if x5 > 0 then (some (0, false)) else ((math_NaN.f).bind fun t106 => (if x9 = 95 then (some (t106, false)) else (if x5 = 0 then (if (Go.bits .or .u8 x9 32) = 105 then (some (t106, false)) else (if (Go.bits .or .u8 x9 32) = 110 then (some (t106, false)) else (if x5 = 1 then (if 0 ≤ (wrap64 (x8 - 1)) then (if (wrap64 (x8 - 1)) < (x0.size : Int) then (if (bt x0 (wrap64 (x8 - 1))) = 48 then (if (Go.bits .or .u8 x9 32) = 120 then (some (t106, false)) else (if (Go.bits .or .u8 x9 32) = 98 then (some (t106, false)) else (some (t106, ((Go.bits .or .u8 x9 32) != 111))))) else (some (t106, true))) else (none)) else (none)) else (some (t106, true))))) else (if x5 = 1 then (if 0 ≤ (wrap64 (x8 - 1)) then (if (wrap64 (x8 - 1)) < (x0.size : Int) then (if (bt x0 (wrap64 (x8 - 1))) = 48 then (if (Go.bits .or .u8 x9 32) = 120 then (some (t106, false)) else (if (Go.bits .or .u8 x9 32) = 98 then (some (t106, false)) else (some (t106, ((Go.bits .or .u8 x9 32) != 111))))) else (some (t106, true))) else (none)) else (none)) else (some (t106, true))))))) else (if x9 = 69 then (if x5 > 0 then (some (0, false)) else ((math_NaN.f).bind fun t107 => (if x9 = 95 then (some (t107, false)) else (if x5 = 0 then (if (Go.bits .or .u8 x9 32) = 105 then (some (t107, false)) else (if (Go.bits .or .u8 x9 32) = 110 then (some (t107, false)) else (if x5 = 1 then (if 0 ≤ (wrap64 (x8 - 1)) then (if (wrap64 (x8 - 1)) < (x0.size : Int) then (if (bt x0 (wrap64 (x8 - 1))) = 48 then (if (Go.bits .or .u8 x9 32) = 120 then (some (t107, false)) else (if (Go.bits .or .u8 x9 32) = 98 then (some (t107, false)) else (some (t107, ((Go.bits .or .u8 x9 32) != 111))))) else (some (t107, true))) else (none)) else (none)) else (some (t107, true))))) else (if x5 = 1 then (if 0 ≤ (wrap64 (x8 - 1)) then (if (wrap64 (x8 - 1)) < (x0.size : Int) then (if (bt x0 (wrap64 (x8 - 1))) = 48 then (if (Go.bits .or .u8 x9 32) = 120 then (some (t107, false)) else (if (Go.bits .or .u8 x9 32) = 98 then (some (t107, false)) else (some (t107, ((Go.bits .or .u8 x9 32) != 111))))) else (some (t107, true))) else (none)) else (none)) else (some (t107, true))))))) else ((math_NaN.f).bind fun t108 => (if x9 = 95 then (some (t108, false)) else (if x5 = 0 then (if (Go.bits .or .u8 x9 32) = 105 then (some (t108, false)) else (if (Go.bits .or .u8 x9 32) = 110 then (some (t108, false)) else (if x5 = 1 then (if 0 ≤ (wrap64 (x8 - 1)) then (if (wrap64 (x8 - 1)) < (x0.size : Int) then (if (bt x0 (wrap64 (x8 - 1))) = 48 then (if (Go.bits .or .u8 x9 32) = 120 then (some (t108, false)) else (if (Go.bits .or .u8 x9 32) = 98 then (some (t108, false)) else (some (t108, ((Go.bits .or .u8 x9 32) != 111))))) else (some (t108, true))) else (none)) else (none)) else (some (t108, true))))) else (if x5 = 1 then (if 0 ≤ (wrap64 (x8 - 1)) then (if (wrap64 (x8 - 1)) < (x0.size : Int) then (if (bt x0 (wrap64 (x8 - 1))) = 48 then (if (Go.bits .or .u8 x9 32) = 120 then (some (t108, false)) else (if (Go.bits .or .u8 x9 32) = 98 then (some (t108, false)) else (some (t108, ((Go.bits .or .u8 x9 32) != 111))))) else (some (t108, true))) else (none)) else (none)) else (some (t108, true))))))))
end
def spec_fraction.f (k : Nat) (a0 : ByteArray) : Option (Nat × Bool) := spec_fraction.l0 k a0 0 0 4607182418800017408 false (a0.size : Int) 0
theorem spec_fraction.mono_l : ∀ k, (∀ y0 y1 y2 y3 y4 y5 y6, LeO (spec_fraction.l0 k y0 y1 y2 y3 y4 y5 y6) (spec_fraction.l0 (k + 1) y0 y1 y2 y3 y4 y5 y6)) ∧ (∀ y0 y1 y2 y3 y4 y5 y6 y7 y8 y9, LeO (spec_fraction.j1 k y0 y1 y2 y3 y4 y5 y6 y7 y8 y9) (spec_fraction.j1 (k + 1) y0 y1 y2 y3 y4 y5 y6 y7 y8 y9)) ∧ (∀ y0 y1 y2 y3 y4 y5 y6 y7 y8 y9, LeO (spec_fraction.j2 k y0 y1 y2 y3 y4 y5 y6 y7 y8 y9) (spec_fraction.j2 (k + 1) y0 y1 y2 y3 y4 y5 y6 y7 y8 y9))
  | 0 => ⟨fun _ _ _ _ _ _ _ r h => by simp [spec_fraction.l0] at h, fun _ _ _ _ _ _ _ _ _ _ r h => by simp [spec_fraction.j1] at h, fun _ _ _ _ _ _ _ _ _ _ r h => by simp [spec_fraction.j2] at h⟩
  | k + 1 => by
    obtain ⟨ih0, ih1, ih2⟩ := spec_fraction.mono_l k
    refine ⟨?_, ?_, ?_⟩
    · intro y0 y1 y2 y3 y4 y5 y6
      unfold spec_fraction.l0
      repeat' first
      | (with_reducible exact ih0 _ _ _ _ _ _ _)
      | (with_reducible exact ih1 _ _ _ _ _ _ _ _ _ _)
      | (with_reducible exact ih2 _ _ _ _ _ _ _ _ _ _)
      | (with_reducible exact LeO.refl _)
      | (with_reducible exact LeO.none _)
      | (with_reducible refine LeO.ite ?_ ?_)
      | (with_reducible refine LeO.bind ?_ (fun _ => ?_))
      | exact ih0 _ _ _ _ _ _ _
      | exact ih1 _ _ _ _ _ _ _ _ _ _
      | exact ih2 _ _ _ _ _ _ _ _ _ _
      | exact LeO.none _
      | refine LeO.ite ?_ ?_
      | refine LeO.bind ?_ (fun _ => ?_)
    · intro y0 y1 y2 y3 y4 y5 y6 y7 y8 y9
      unfold spec_fraction.j1
      repeat' first
      | (with_reducible exact ih0 _ _ _ _ _ _ _)
      | (with_reducible exact ih1 _ _ _ _ _ _ _ _ _ _)
      | (with_reducible exact ih2 _ _ _ _ _ _ _ _ _ _)
      | (with_reducible exact LeO.refl _)
      | (with_reducible exact LeO.none _)
      | (with_reducible refine LeO.ite ?_ ?_)
      | (with_reducible refine LeO.bind ?_ (fun _ => ?_))
      | exact ih0 _ _ _ _ _ _ _
      | exact ih1 _ _ _ _ _ _ _ _ _ _
      | exact ih2 _ _ _ _ _ _ _ _ _ _
      | exact LeO.none _
      | refine LeO.ite ?_ ?_
      | refine LeO.bind ?_ (fun _ => ?_)
    · intro y0 y1 y2 y3 y4 y5 y6 y7 y8 y9
      unfold spec_fraction.j2
      repeat' first
      | (with_reducible exact ih0 _ _ _ _ _ _ _)
      | (with_reducible exact ih1 _ _ _ _ _ _ _ _ _ _)
      | (with_reducible exact ih2 _ _ _ _ _ _ _ _ _ _)
      | (with_reducible exact LeO.refl _)
      | (with_reducible exact LeO.none _)
      | (with_reducible refine LeO.ite ?_ ?_)
      | (with_reducible refine LeO.bind ?_ (fun _ => ?_))
      | exact ih0 _ _ _ _ _ _ _
      | exact ih1 _ _ _ _ _ _ _ _ _ _
      | exact ih2 _ _ _ _ _ _ _ _ _ _
      | exact LeO.none _
      | refine LeO.ite ?_ ?_
      | refine LeO.bind ?_ (fun _ => ?_)
theorem spec_fraction.mono : ∀ a0 k, LeO (spec_fraction.f k a0) (spec_fraction.f (k + 1) a0) := by
  intro a0 k
  obtain ⟨ih0, ih1, ih2⟩ := spec_fraction.mono_l k
  unfold spec_fraction.f
  repeat' first
      | (with_reducible exact ih0 _ _ _ _ _ _ _)
      | (with_reducible exact ih1 _ _ _ _ _ _ _ _ _ _)
      | (with_reducible exact ih2 _ _ _ _ _ _ _ _ _ _)
      | (with_reducible exact LeO.refl _)
      | (with_reducible exact LeO.none _)
      | (with_reducible refine LeO.ite ?_ ?_)
      | (with_reducible refine LeO.bind ?_ (fun _ => ?_))
      | exact ih0 _ _ _ _ _ _ _
      | exact ih1 _ _ _ _ _ _ _ _ _ _
      | exact ih2 _ _ _ _ _ _ _ _ _ _
      | exact LeO.none _
      | refine LeO.ite ?_ ?_
      | refine LeO.bind ?_ (fun _ => ?_)
set_option maxHeartbeats 8000000 in
set_option maxRecDepth 100000 in
theorem spec_fraction.calls (k : Nat) (a0 : ByteArray) (r1 : Nat) (r2 : Bool) (w : World) (h : spec_fraction.f k a0 = some (r1, r2)) :
    Calls Tryz.prog 13 #[.string a0] w fun e w' => e = .returned (.tuple #[.float .f64 r1, .bool r2]) ∧ Drawn0 w w' := by
  have H : (spec_fraction.l0 k a0 0 0 4607182418800017408 false (a0.size : Int) 0) = some (r1, r2) := h
  clear h
  have H' := Aside0.mk H
  clear H
  go_enter Tryz.func13, Tryz.ntmps13
  go_wp2
  go_loopg [4, 5, 6, 7, 13] k (fun kq v4 v5 v6 v7 v13 w' => ∃ (x4_1 : Int) (x5_1 : Int) (x6_1 : Nat) (x7_1 : Bool) (x13_1 : Int), v4 = .int .u64 x4_1 ∧ v5 = .int .i64 x5_1 ∧ v6 = .float .f64 x6_1 ∧ v7 = .bool x7_1 ∧ v13 = .int .i64 x13_1 ∧ Aside0 (spec_fraction.l0 kq a0 x4_1 x5_1 x6_1 x7_1 (a0.size : Int) x13_1 = some (r1, r2)) ∧ Aside0 (kq ≤ k) ∧ Drawn0 w w')
  case atStart => exact ⟨(0), (0), (4607182418800017408), (false), (0), (by first | rfl | (simp; done) | (simp [*]; done)), (by first | rfl | (simp; done) | (simp [*]; done)), (by first | rfl | (simp; done) | (simp [*]; done)), (by first | rfl | (simp; done) | (simp [*]; done)), (by first | rfl | (simp; done) | (simp [*]; done)), H', ⟨Nat.le_refl _⟩, by repeat (first | exact Drawn0.refl _ | apply Drawn0.step)⟩
  case round =>
    clear H'
    try clear c1
    obtain ⟨x4_1, x5_1, x6_1, x7_1, x13_1, rfl, rfl, rfl, rfl, rfl, HA, HK1, ⟨m1, rfl⟩⟩ := hrel
    cases gk with
    | zero => exact absurd HA.out (by simp [spec_fraction.l0])
    | succ k1 =>
      have H := HA.out
      clear HA
      simp only [spec_fraction.l0] at H
      by_cases c2 : x13_1 < (a0.size : Int)
      · rw [if_pos c2] at H
        have c2b0 : decide (x13_1 < (a0.size : Int)) = true := decide_eq_true c2
        clear c2
        by_cases c3 : 0 ≤ x13_1
        · rw [if_pos c3] at H
          have c3b0 : decide (0 ≤ x13_1) = true := decide_eq_true c3
          clear c3
          by_cases c4 : x13_1 < (a0.size : Int)
          · rw [if_pos c4] at H
            have c4b0 : decide (x13_1 < (a0.size : Int)) = true := decide_eq_true c4
            clear c4
            have HC6 := Aside0.mk H
            clear H
            have p5 : 0 ≤ (x13_1 : Int) := of_decide_eq_true (by first | (with_reducible assumption) | assumption)
            have q5 : x13_1 < (a0.size : Int) := of_decide_eq_true (by first | (with_reducible assumption) | assumption)
            have hx5 := bt_at a0 x13_1
            replace p5 := eq_true p5
            replace q5 := eq_true q5
            go_upto_region 8 with (fail)
            go_cut [59] (fun v59 wc => ∃ (kq : Nat) (x59_5 : Bool), v59 = .bool x59_5 ∧ Aside0 (spec_fraction.j1 kq a0 x4_1 x5_1 x6_1 x7_1 x13_1 (bt a0 x13_1) (a0.size : Int) x13_1 x59_5 = some (r1, r2)) ∧ Aside0 (kq ≤ k1) ∧ Drawn0 w wc)
            case first =>
              have H := HC6.out
              clear HC6
              by_cases c7 : (bt a0 x13_1) = 46
              · rw [if_pos c7] at H
                have c7b0 : ((bt a0 x13_1) == 46) = true := beq_iff_eq.mpr c7
                have c7b1 : ((bt a0 x13_1) != 46) = false := bne_eq_false_iff_eq.mpr c7
                clear c7
                (first | rw [c7b0] | (simp only [i64_w, i32_w]; rw [c7b0]) | skip)
                as_aux_lemma =>
                  have H' := Aside0.mk H
                  clear H
                  go_wp2
                  go_meet
                  case rel => exact ⟨_, (!x7_1), (by first | rfl | (simp; done) | (simp [*]; done)), H', ⟨by have := HK1.out; first | omega | exact Nat.le_refl _⟩, by repeat (first | exact Drawn0.refl _ | apply Drawn0.step)⟩
              · rw [if_neg c7] at H
                have c7b0 : ((bt a0 x13_1) == 46) = false := beq_eq_false_iff_ne.mpr c7
                have c7b1 : ((bt a0 x13_1) != 46) = true := bne_iff_ne.mpr c7
                (first | rw [c7b0] | (simp only [i64_w, i32_w]; rw [c7b0]) | skip)
                as_aux_lemma =>
                  have H' := Aside0.mk H
                  clear H
                  go_wp2
                  go_meet
                  case rel => exact ⟨_, (false), (by first | rfl | (simp; done) | (simp [*]; done)), H', ⟨by have := HK1.out; first | omega | exact Nat.le_refl _⟩, by repeat (first | exact Drawn0.refl _ | apply Drawn0.step)⟩
            case rest =>
              clear HC6
              try clear c1
              try clear c2
              try clear c2b0
              try clear p2
              try clear c3
              try clear c3b0
              try clear c4
              try clear c4b0
              try clear p5
              try clear q5
              try clear hx5
              try clear c7
              try clear c7b0
              try clear c7b1
              try clear p5
              try clear q5
              obtain ⟨kq, x59_5, rfl, HA, HJ5, ⟨mc5, rfl⟩⟩ := hcut
              cases kq with
              | zero => exact absurd HA.out (by simp [spec_fraction.j1])
              | succ kj5 =>
                have H := HA.out
                clear HA
                simp only [spec_fraction.j1] at H
                by_cases c8 : x59_5 = true
                · subst c8
                  have H1 : (spec_fraction.l0 kj5 a0 x4_1 x5_1 x6_1 true (a0.size : Int) (wrap64 (x13_1 + 1))) = some (r1, r2) := by rw [if_pos rfl] at H; exact H
                  clear H
                  have H := H1
                  clear H1
                  as_aux_lemma =>
                    have H' := Aside0.mk H
                    clear H
                    go_wp2
                    go_roundg kj5
                    case measure => have := HK1.out; have := HJ5.out; omega
                    case rel => exact ⟨(x4_1), (x5_1), (x6_1), (true), (wrap64 (x13_1 + 1)), (by first | rfl | (simp; done) | (simp [*]; done)), (by first | rfl | (simp; done) | (simp [*]; done)), (by first | rfl | (simp; done) | (simp [*]; done)), (by first | rfl | (simp; done) | (simp [*]; done)), (by first | rfl | (simp; done) | (simp [*]; done)), H', ⟨by have := HK1.out; have := HJ5.out; omega⟩, by repeat (first | exact Drawn0.refl _ | apply Drawn0.step)⟩
                · replace c8 := Bool.eq_false_iff.mpr c8
                  subst c8
                  have H1 : (if (bt a0 x13_1) ≥ 48 then (spec_fraction.j2 kj5 a0 x4_1 x5_1 x6_1 x7_1 x13_1 (bt a0 x13_1) (a0.size : Int) x13_1 (decide ((bt a0 x13_1) ≤ 57))) else (spec_fraction.j2 kj5 a0 x4_1 x5_1 x6_1 x7_1 x13_1 (bt a0 x13_1) (a0.size : Int) x13_1 false)) = some (r1, r2) := by rw [if_neg (show ¬ (false = true) by decide)] at H; exact H
                  clear H
                  have H := H1
                  clear H1
                  have HC9 := Aside0.mk H
                  clear H
                  go_upto_region 10 with (fail)
                  go_cut [66] (fun v66 wc => ∃ (kq : Nat) (x66_8 : Bool), v66 = .bool x66_8 ∧ Aside0 (spec_fraction.j2 kq a0 x4_1 x5_1 x6_1 x7_1 x13_1 (bt a0 x13_1) (a0.size : Int) x13_1 x66_8 = some (r1, r2)) ∧ Aside0 (kq ≤ kj5) ∧ Drawn0 w wc)
                  case first =>
                    have H := HC9.out
                    clear HC9
                    by_cases c10 : (bt a0 x13_1) ≥ 48
                    · rw [if_pos c10] at H
                      have c10b0 : decide (48 ≤ (bt a0 x13_1)) = true := decide_eq_true c10
                      clear c10
                      (first | rw [c10b0] | (simp only [i64_w, i32_w]; rw [c10b0]) | skip)
                      as_aux_lemma =>
                        have H' := Aside0.mk H
                        clear H
                        go_wp2
                        go_meet
                        case rel => exact ⟨_, (decide ((bt a0 x13_1) ≤ 57)), (by first | rfl | (simp; done) | (simp [*]; done)), H', ⟨by have := HK1.out; have := HJ5.out; first | omega | exact Nat.le_refl _⟩, by repeat (first | exact Drawn0.refl _ | apply Drawn0.step)⟩
                    · rw [if_neg c10] at H
                      have c10b0 : decide (48 ≤ (bt a0 x13_1)) = false := decide_eq_false c10
                      clear c10
                      (first | rw [c10b0] | (simp only [i64_w, i32_w]; rw [c10b0]) | skip)
                      as_aux_lemma =>
                        have H' := Aside0.mk H
                        clear H
                        go_wp2
                        go_meet
                        case rel => exact ⟨_, (false), (by first | rfl | (simp; done) | (simp [*]; done)), H', ⟨by have := HK1.out; have := HJ5.out; first | omega | exact Nat.le_refl _⟩, by repeat (first | exact Drawn0.refl _ | apply Drawn0.step)⟩
                  case rest =>
                    clear HC9
                    try clear c1
                    try clear c2
                    try clear c2b0
                    try clear p2
                    try clear c3
                    try clear c3b0
                    try clear c4
                    try clear c4b0
                    try clear c5
                    try clear p5
                    try clear q5
                    try clear hx5
                    try clear p6
                    try clear c7
                    try clear c7b0
                    try clear c7b1
                    try clear c8
                    try clear c10
                    try clear c10b0
                    try clear p2
                    try clear p5
                    try clear q5
                    obtain ⟨kq, x66_8, rfl, HA, HJ8, ⟨mc8, rfl⟩⟩ := hcut
                    cases kq with
                    | zero => exact absurd HA.out (by simp [spec_fraction.j2])
                    | succ kj8 =>
                      have H := HA.out
                      clear HA
                      simp only [spec_fraction.j2] at H
                      by_cases c11 : x66_8 = true
                      · subst c11
                        have H1 : (if (wrap64 (x5_1 + 1)) > 15 then (some (0, false)) else (if x7_1 = true then ((floatBits .mul .f64 x6_1 4621819117588971520).bind fun t105 => (spec_fraction.l0 kj8 a0 (IntKind.u64.wrap ((IntKind.u64.wrap (10 * x4_1)) + (((bt a0 x13_1) - 48) % 256))) (wrap64 (x5_1 + 1)) t105 x7_1 (a0.size : Int) (wrap64 (x13_1 + 1)))) else (spec_fraction.l0 kj8 a0 (IntKind.u64.wrap ((IntKind.u64.wrap (10 * x4_1)) + (((bt a0 x13_1) - 48) % 256))) (wrap64 (x5_1 + 1)) x6_1 x7_1 (a0.size : Int) (wrap64 (x13_1 + 1))))) = some (r1, r2) := by rw [if_pos rfl] at H; exact H
                        clear H
                        have H := H1
                        clear H1
                        by_cases c12 : (wrap64 (x5_1 + 1)) > 15
                        · rw [if_pos c12] at H
                          have c12b0 : decide (15 < (wrap64 (x5_1 + 1))) = true := decide_eq_true c12
                          clear c12
                          as_aux_lemma =>
                            simp only [Option.some.injEq, Prod.mk.injEq] at H
                            obtain ⟨rfl, rfl⟩ := H
                            go_wp2
                            go_ret2
                            exact ⟨by first | rfl | (simp; done) | (simp [*]; done), by repeat (first | exact Drawn0.refl _ | apply Drawn0.step)⟩
                        · rw [if_neg c12] at H
                          have c12b0 : decide (15 < (wrap64 (x5_1 + 1))) = false := decide_eq_false c12
                          clear c12
                          by_cases c13 : x7_1 = true
                          · subst c13
                            have H1 : ((floatBits .mul .f64 x6_1 4621819117588971520).bind fun t105 => (spec_fraction.l0 kj8 a0 (IntKind.u64.wrap ((IntKind.u64.wrap (10 * x4_1)) + (((bt a0 x13_1) - 48) % 256))) (wrap64 (x5_1 + 1)) t105 true (a0.size : Int) (wrap64 (x13_1 + 1)))) = some (r1, r2) := by rw [if_pos rfl] at H; exact H
                            clear H
                            have H := H1
                            clear H1
                            replace H := Option.bind_eq_some_iff.mp H
                            obtain ⟨t105, A140, H⟩ := H
                            replace H : (spec_fraction.l0 kj8 a0 (IntKind.u64.wrap ((IntKind.u64.wrap (10 * x4_1)) + (((bt a0 x13_1) - 48) % 256))) (wrap64 (x5_1 + 1)) t105 true (a0.size : Int) (wrap64 (x13_1 + 1))) = some (r1, r2) := H
                            have A14 := Aside0.mk A140
                            clear A140
                            as_aux_lemma =>
                              have H' := Aside0.mk H
                              clear H
                              have hfl15 := fun W_ => run_float_arith (P := Tryz.prog) W_ .mul 23 .f64 x6_1 4621819117588971520 t105 A14.out
                              go_wp2
                              go_roundg kj8
                              case measure => have := HK1.out; have := HJ5.out; have := HJ8.out; omega
                              case rel => exact ⟨(IntKind.u64.wrap ((IntKind.u64.wrap (10 * x4_1)) + (((bt a0 x13_1) - 48) % 256))), (wrap64 (x5_1 + 1)), (t105), (true), (wrap64 (x13_1 + 1)), (by first | rfl | (simp; done) | (simp [*]; done)), (by first | rfl | (simp; done) | (simp [*]; done)), (by first | rfl | (simp; done) | (simp [*]; done)), (by first | rfl | (simp; done) | (simp [*]; done)), (by first | rfl | (simp; done) | (simp [*]; done)), H', ⟨by have := HK1.out; have := HJ5.out; have := HJ8.out; omega⟩, by repeat (first | exact Drawn0.refl _ | apply Drawn0.step)⟩
                          · replace c13 := Bool.eq_false_iff.mpr c13
                            subst c13
                            have H1 : (spec_fraction.l0 kj8 a0 (IntKind.u64.wrap ((IntKind.u64.wrap (10 * x4_1)) + (((bt a0 x13_1) - 48) % 256))) (wrap64 (x5_1 + 1)) x6_1 false (a0.size : Int) (wrap64 (x13_1 + 1))) = some (r1, r2) := by rw [if_neg (show ¬ (false = true) by decide)] at H; exact H
                            clear H
                            have H := H1
                            clear H1
                            as_aux_lemma =>
                              have H' := Aside0.mk H
                              clear H
                              go_wp2
                              go_roundg kj8
                              case measure => have := HK1.out; have := HJ5.out; have := HJ8.out; omega
                              case rel => exact ⟨(IntKind.u64.wrap ((IntKind.u64.wrap (10 * x4_1)) + (((bt a0 x13_1) - 48) % 256))), (wrap64 (x5_1 + 1)), (x6_1), (false), (wrap64 (x13_1 + 1)), (by first | rfl | (simp; done) | (simp [*]; done)), (by first | rfl | (simp; done) | (simp [*]; done)), (by first | rfl | (simp; done) | (simp [*]; done)), (by first | rfl | (simp; done) | (simp [*]; done)), (by first | rfl | (simp; done) | (simp [*]; done)), H', ⟨by have := HK1.out; have := HJ5.out; have := HJ8.out; omega⟩, by repeat (first | exact Drawn0.refl _ | apply Drawn0.step)⟩
                      · replace c11 := Bool.eq_false_iff.mpr c11
                        subst c11
                        have H1 : (if (bt a0 x13_1) = 101 then (if x5_1 > 0 then (some (0, false)) else ((math_NaN.f).bind fun t106 => (if (bt a0 x13_1) = 95 then (some (t106, false)) else (if x5_1 = 0 then (if (Go.bits .or .u8 (bt a0 x13_1) 32) = 105 then (some (t106, false)) else (if (Go.bits .or .u8 (bt a0 x13_1) 32) = 110 then (some (t106, false)) else (if x5_1 = 1 then (if 0 ≤ (wrap64 (x13_1 - 1)) then (if (wrap64 (x13_1 - 1)) < (a0.size : Int) then (if (bt a0 (wrap64 (x13_1 - 1))) = 48 then (if (Go.bits .or .u8 (bt a0 x13_1) 32) = 120 then (some (t106, false)) else (if (Go.bits .or .u8 (bt a0 x13_1) 32) = 98 then (some (t106, false)) else (some (t106, ((Go.bits .or .u8 (bt a0 x13_1) 32) != 111))))) else (some (t106, true))) else (none)) else (none)) else (some (t106, true))))) else (if x5_1 = 1 then (if 0 ≤ (wrap64 (x13_1 - 1)) then (if (wrap64 (x13_1 - 1)) < (a0.size : Int) then (if (bt a0 (wrap64 (x13_1 - 1))) = 48 then (if (Go.bits .or .u8 (bt a0 x13_1) 32) = 120 then (some (t106, false)) else (if (Go.bits .or .u8 (bt a0 x13_1) 32) = 98 then (some (t106, false)) else (some (t106, ((Go.bits .or .u8 (bt a0 x13_1) 32) != 111))))) else (some (t106, true))) else (none)) else (none)) else (some (t106, true))))))) else (if (bt a0 x13_1) = 69 then (if x5_1 > 0 then (some (0, false)) else ((math_NaN.f).bind fun t107 => (if (bt a0 x13_1) = 95 then (some (t107, false)) else (if x5_1 = 0 then (if (Go.bits .or .u8 (bt a0 x13_1) 32) = 105 then (some (t107, false)) else (if (Go.bits .or .u8 (bt a0 x13_1) 32) = 110 then (some (t107, false)) else (if x5_1 = 1 then (if 0 ≤ (wrap64 (x13_1 - 1)) then (if (wrap64 (x13_1 - 1)) < (a0.size : Int) then (if (bt a0 (wrap64 (x13_1 - 1))) = 48 then (if (Go.bits .or .u8 (bt a0 x13_1) 32) = 120 then (some (t107, false)) else (if (Go.bits .or .u8 (bt a0 x13_1) 32) = 98 then (some (t107, false)) else (some (t107, ((Go.bits .or .u8 (bt a0 x13_1) 32) != 111))))) else (some (t107, true))) else (none)) else (none)) else (some (t107, true))))) else (if x5_1 = 1 then (if 0 ≤ (wrap64 (x13_1 - 1)) then (if (wrap64 (x13_1 - 1)) < (a0.size : Int) then (if (bt a0 (wrap64 (x13_1 - 1))) = 48 then (if (Go.bits .or .u8 (bt a0 x13_1) 32) = 120 then (some (t107, false)) else (if (Go.bits .or .u8 (bt a0 x13_1) 32) = 98 then (some (t107, false)) else (some (t107, ((Go.bits .or .u8 (bt a0 x13_1) 32) != 111))))) else (some (t107, true))) else (none)) else (none)) else (some (t107, true))))))) else ((math_NaN.f).bind fun t108 => (if (bt a0 x13_1) = 95 then (some (t108, false)) else (if x5_1 = 0 then (if (Go.bits .or .u8 (bt a0 x13_1) 32) = 105 then (some (t108, false)) else (if (Go.bits .or .u8 (bt a0 x13_1) 32) = 110 then (some (t108, false)) else (if x5_1 = 1 then (if 0 ≤ (wrap64 (x13_1 - 1)) then (if (wrap64 (x13_1 - 1)) < (a0.size : Int) then (if (bt a0 (wrap64 (x13_1 - 1))) = 48 then (if (Go.bits .or .u8 (bt a0 x13_1) 32) = 120 then (some (t108, false)) else (if (Go.bits .or .u8 (bt a0 x13_1) 32) = 98 then (some (t108, false)) else (some (t108, ((Go.bits .or .u8 (bt a0 x13_1) 32) != 111))))) else (some (t108, true))) else (none)) else (none)) else (some (t108, true))))) else (if x5_1 = 1 then (if 0 ≤ (wrap64 (x13_1 - 1)) then (if (wrap64 (x13_1 - 1)) < (a0.size : Int) then (if (bt a0 (wrap64 (x13_1 - 1))) = 48 then (if (Go.bits .or .u8 (bt a0 x13_1) 32) = 120 then (some (t108, false)) else (if (Go.bits .or .u8 (bt a0 x13_1) 32) = 98 then (some (t108, false)) else (some (t108, ((Go.bits .or .u8 (bt a0 x13_1) 32) != 111))))) else (some (t108, true))) else (none)) else (none)) else (some (t108, true)))))))) = some (r1, r2) := by rw [if_neg (show ¬ (false = true) by decide)] at H; exact H
                        clear H
                        have H := H1
                        clear H1
                        by_cases c16 : (bt a0 x13_1) = 101
                        · rw [if_pos c16] at H
                          have c16b0 : ((bt a0 x13_1) == 101) = true := beq_iff_eq.mpr c16
                          have c16b1 : ((bt a0 x13_1) != 101) = false := bne_eq_false_iff_eq.mpr c16
                          clear c16
                          by_cases c17 : x5_1 > 0
                          · rw [if_pos c17] at H
                            have c17b0 : decide (0 < x5_1) = true := decide_eq_true c17
                            clear c17
                            as_aux_lemma =>
                              simp only [Option.some.injEq, Prod.mk.injEq] at H
                              obtain ⟨rfl, rfl⟩ := H
                              go_wp2
                              go_ret2
                              exact ⟨by first | rfl | (simp; done) | (simp [*]; done), by repeat (first | exact Drawn0.refl _ | apply Drawn0.step)⟩
                          · rw [if_neg c17] at H
                            have c17b0 : decide (0 < x5_1) = false := decide_eq_false c17
                            clear c17
                            replace H := Option.bind_eq_some_iff.mp H
                            obtain ⟨t106, A180, H⟩ := H
                            replace H : (if (bt a0 x13_1) = 95 then (some (t106, false)) else (if x5_1 = 0 then (if (Go.bits .or .u8 (bt a0 x13_1) 32) = 105 then (some (t106, false)) else (if (Go.bits .or .u8 (bt a0 x13_1) 32) = 110 then (some (t106, false)) else (if x5_1 = 1 then (if 0 ≤ (wrap64 (x13_1 - 1)) then (if (wrap64 (x13_1 - 1)) < (a0.size : Int) then (if (bt a0 (wrap64 (x13_1 - 1))) = 48 then (if (Go.bits .or .u8 (bt a0 x13_1) 32) = 120 then (some (t106, false)) else (if (Go.bits .or .u8 (bt a0 x13_1) 32) = 98 then (some (t106, false)) else (some (t106, ((Go.bits .or .u8 (bt a0 x13_1) 32) != 111))))) else (some (t106, true))) else (none)) else (none)) else (some (t106, true))))) else (if x5_1 = 1 then (if 0 ≤ (wrap64 (x13_1 - 1)) then (if (wrap64 (x13_1 - 1)) < (a0.size : Int) then (if (bt a0 (wrap64 (x13_1 - 1))) = 48 then (if (Go.bits .or .u8 (bt a0 x13_1) 32) = 120 then (some (t106, false)) else (if (Go.bits .or .u8 (bt a0 x13_1) 32) = 98 then (some (t106, false)) else (some (t106, ((Go.bits .or .u8 (bt a0 x13_1) 32) != 111))))) else (some (t106, true))) else (none)) else (none)) else (some (t106, true))))) = some (r1, r2) := H
                            have A18 := Aside0.mk A180
                            clear A180
                            by_cases c19 : (bt a0 x13_1) = 95
                            · rw [if_pos c19] at H
                              have c19b0 : ((bt a0 x13_1) == 95) = true := beq_iff_eq.mpr c19
                              have c19b1 : ((bt a0 x13_1) != 95) = false := bne_eq_false_iff_eq.mpr c19
                              clear c19
                              as_aux_lemma =>
                                simp only [Option.some.injEq, Prod.mk.injEq] at H
                                obtain ⟨rfl, rfl⟩ := H
                                go_wp2_with (first | ((with_reducible refine gate_callee (f := 15) rfl ?_); refine goesL_ (some 21) rfl rfl Tryz.func15 (by kernel_rfl) rfl #[] rfl (by (try simp only [List.map_toArray, List.map_cons, List.map_nil]); first | done | rfl | (simp only [List.length_drop, List.length_take]; rfl)) ?_; (with_reducible refine (math_NaN.calls  t106 _ A18.out).mono ?_); rintro e w' ⟨rfl, ⟨nd, rfl⟩⟩; refine ⟨_, rfl, ?_⟩))
                                go_ret2
                                exact ⟨by first | rfl | (simp; done) | (simp [*]; done), by repeat (first | exact Drawn0.refl _ | apply Drawn0.step)⟩
                            · rw [if_neg c19] at H
                              have c19b0 : ((bt a0 x13_1) == 95) = false := beq_eq_false_iff_ne.mpr c19
                              have c19b1 : ((bt a0 x13_1) != 95) = true := bne_iff_ne.mpr c19
                              by_cases c20 : x5_1 = 0
                              · rw [if_pos c20] at H
                                have c20b0 : (x5_1 == 0) = true := beq_iff_eq.mpr c20
                                have c20b1 : (x5_1 != 0) = false := bne_eq_false_iff_eq.mpr c20
                                clear c20
                                by_cases c21 : (Go.bits .or .u8 (bt a0 x13_1) 32) = 105
                                · rw [if_pos c21] at H
                                  have c21b0 : ((Go.bits .or .u8 (bt a0 x13_1) 32) == 105) = true := beq_iff_eq.mpr c21
                                  have c21b1 : ((Go.bits .or .u8 (bt a0 x13_1) 32) != 105) = false := bne_eq_false_iff_eq.mpr c21
                                  clear c21
                                  as_aux_lemma =>
                                    simp only [Option.some.injEq, Prod.mk.injEq] at H
                                    obtain ⟨rfl, rfl⟩ := H
                                    go_wp2_with (first | ((with_reducible refine gate_callee (f := 15) rfl ?_); refine goesL_ (some 21) rfl rfl Tryz.func15 (by kernel_rfl) rfl #[] rfl (by (try simp only [List.map_toArray, List.map_cons, List.map_nil]); first | done | rfl | (simp only [List.length_drop, List.length_take]; rfl)) ?_; (with_reducible refine (math_NaN.calls  t106 _ A18.out).mono ?_); rintro e w' ⟨rfl, ⟨nd, rfl⟩⟩; refine ⟨_, rfl, ?_⟩))
                                    go_ret2
                                    exact ⟨by first | rfl | (simp; done) | (simp [*]; done), by repeat (first | exact Drawn0.refl _ | apply Drawn0.step)⟩
                                · rw [if_neg c21] at H
                                  have c21b0 : ((Go.bits .or .u8 (bt a0 x13_1) 32) == 105) = false := beq_eq_false_iff_ne.mpr c21
                                  have c21b1 : ((Go.bits .or .u8 (bt a0 x13_1) 32) != 105) = true := bne_iff_ne.mpr c21
                                  by_cases c22 : (Go.bits .or .u8 (bt a0 x13_1) 32) = 110
                                  · rw [if_pos c22] at H
                                    have c22b0 : ((Go.bits .or .u8 (bt a0 x13_1) 32) == 110) = true := beq_iff_eq.mpr c22
                                    have c22b1 : ((Go.bits .or .u8 (bt a0 x13_1) 32) != 110) = false := bne_eq_false_iff_eq.mpr c22
                                    clear c22
                                    as_aux_lemma =>
                                      simp only [Option.some.injEq, Prod.mk.injEq] at H
                                      obtain ⟨rfl, rfl⟩ := H
                                      go_wp2_with (first | ((with_reducible refine gate_callee (f := 15) rfl ?_); refine goesL_ (some 21) rfl rfl Tryz.func15 (by kernel_rfl) rfl #[] rfl (by (try simp only [List.map_toArray, List.map_cons, List.map_nil]); first | done | rfl | (simp only [List.length_drop, List.length_take]; rfl)) ?_; (with_reducible refine (math_NaN.calls  t106 _ A18.out).mono ?_); rintro e w' ⟨rfl, ⟨nd, rfl⟩⟩; refine ⟨_, rfl, ?_⟩))
                                      go_ret2
                                      exact ⟨by first | rfl | (simp; done) | (simp [*]; done), by repeat (first | exact Drawn0.refl _ | apply Drawn0.step)⟩
                                  · rw [if_neg c22] at H
                                    have c22b0 : ((Go.bits .or .u8 (bt a0 x13_1) 32) == 110) = false := beq_eq_false_iff_ne.mpr c22
                                    have c22b1 : ((Go.bits .or .u8 (bt a0 x13_1) 32) != 110) = true := bne_iff_ne.mpr c22
                                    by_cases c23 : x5_1 = 1
                                    · rw [if_pos c23] at H
                                      have c23b0 : (x5_1 == 1) = true := beq_iff_eq.mpr c23
                                      have c23b1 : (x5_1 != 1) = false := bne_eq_false_iff_eq.mpr c23
                                      clear c23
                                      obtain ⟨ji24, hji24⟩ : ∃ j_ : Int, (wrap64 (x13_1 - 1)) = j_ := ⟨_, rfl⟩
                                      replace H : (if 0 ≤ (ji24) then (if (ji24) < (a0.size : Int) then (if (bt a0 (ji24)) = 48 then (if (Go.bits .or .u8 (bt a0 x13_1) 32) = 120 then (some (t106, false)) else (if (Go.bits .or .u8 (bt a0 x13_1) 32) = 98 then (some (t106, false)) else (some (t106, ((Go.bits .or .u8 (bt a0 x13_1) 32) != 111))))) else (some (t106, true))) else (none)) else (none)) = some (r1, r2) := by first | (rw [hji24] at H; exact H) | (simp only [hji24] at H ⊢; exact H)
                                      (try rw [hji24] at A18)
                                      have hji24w : (IntKind.i64.wrap (x13_1 - 1)) = ji24 := (i64_w _).trans hji24
                                      by_cases c25 : 0 ≤ (ji24)
                                      · rw [if_pos c25] at H
                                        have c25b0 : decide (0 ≤ (ji24)) = true := decide_eq_true c25
                                        clear c25
                                        by_cases c26 : (ji24) < (a0.size : Int)
                                        · rw [if_pos c26] at H
                                          have c26b0 : decide ((ji24) < (a0.size : Int)) = true := decide_eq_true c26
                                          clear c26
                                          by_cases c28 : (bt a0 (ji24)) = 48
                                          · rw [if_pos c28] at H
                                            have c28b0 : ((bt a0 (ji24)) == 48) = true := beq_iff_eq.mpr c28
                                            have c28b1 : ((bt a0 (ji24)) != 48) = false := bne_eq_false_iff_eq.mpr c28
                                            clear c28
                                            by_cases c29 : (Go.bits .or .u8 (bt a0 x13_1) 32) = 120
                                            · rw [if_pos c29] at H
                                              have c29b0 : ((Go.bits .or .u8 (bt a0 x13_1) 32) == 120) = true := beq_iff_eq.mpr c29
                                              have c29b1 : ((Go.bits .or .u8 (bt a0 x13_1) 32) != 120) = false := bne_eq_false_iff_eq.mpr c29
                                              clear c29
                                              as_aux_lemma =>
                                                simp only [Option.some.injEq, Prod.mk.injEq] at H
                                                obtain ⟨rfl, rfl⟩ := H
                                                go_wp2_with (first | ((with_reducible refine gate_callee (f := 15) rfl ?_); refine goesL_ (some 21) rfl rfl Tryz.func15 (by kernel_rfl) rfl #[] rfl (by (try simp only [List.map_toArray, List.map_cons, List.map_nil]); first | done | rfl | (simp only [List.length_drop, List.length_take]; rfl)) ?_; (with_reducible refine (math_NaN.calls  t106 _ A18.out).mono ?_); rintro e w' ⟨rfl, ⟨nd, rfl⟩⟩; refine ⟨_, rfl, ?_⟩; have p27 : 0 ≤ ((ji24) : Int) := of_decide_eq_true (by first | (with_reducible assumption) | assumption); have q27 : (ji24) < (a0.size : Int) := of_decide_eq_true (by first | (with_reducible assumption) | assumption); have hx27 := bt_at a0 (ji24); replace p27 := eq_true p27; replace q27 := eq_true q27))
                                                go_ret2
                                                exact ⟨by first | rfl | (simp; done) | (simp only [← hji24] <;> (first | rfl | simp)) | (simp [*]; done), by repeat (first | exact Drawn0.refl _ | apply Drawn0.step)⟩
                                            · rw [if_neg c29] at H
                                              have c29b0 : ((Go.bits .or .u8 (bt a0 x13_1) 32) == 120) = false := beq_eq_false_iff_ne.mpr c29
                                              have c29b1 : ((Go.bits .or .u8 (bt a0 x13_1) 32) != 120) = true := bne_iff_ne.mpr c29
                                              by_cases c30 : (Go.bits .or .u8 (bt a0 x13_1) 32) = 98
                                              · rw [if_pos c30] at H
                                                have c30b0 : ((Go.bits .or .u8 (bt a0 x13_1) 32) == 98) = true := beq_iff_eq.mpr c30
                                                have c30b1 : ((Go.bits .or .u8 (bt a0 x13_1) 32) != 98) = false := bne_eq_false_iff_eq.mpr c30
                                                clear c30
                                                as_aux_lemma =>
                                                  simp only [Option.some.injEq, Prod.mk.injEq] at H
                                                  obtain ⟨rfl, rfl⟩ := H
                                                  go_wp2_with (first | ((with_reducible refine gate_callee (f := 15) rfl ?_); refine goesL_ (some 21) rfl rfl Tryz.func15 (by kernel_rfl) rfl #[] rfl (by (try simp only [List.map_toArray, List.map_cons, List.map_nil]); first | done | rfl | (simp only [List.length_drop, List.length_take]; rfl)) ?_; (with_reducible refine (math_NaN.calls  t106 _ A18.out).mono ?_); rintro e w' ⟨rfl, ⟨nd, rfl⟩⟩; refine ⟨_, rfl, ?_⟩; have p27 : 0 ≤ ((ji24) : Int) := of_decide_eq_true (by first | (with_reducible assumption) | assumption); have q27 : (ji24) < (a0.size : Int) := of_decide_eq_true (by first | (with_reducible assumption) | assumption); have hx27 := bt_at a0 (ji24); replace p27 := eq_true p27; replace q27 := eq_true q27))
                                                  go_ret2
                                                  exact ⟨by first | rfl | (simp; done) | (simp only [← hji24] <;> (first | rfl | simp)) | (simp [*]; done), by repeat (first | exact Drawn0.refl _ | apply Drawn0.step)⟩
                                              · rw [if_neg c30] at H
                                                have c30b0 : ((Go.bits .or .u8 (bt a0 x13_1) 32) == 98) = false := beq_eq_false_iff_ne.mpr c30
                                                have c30b1 : ((Go.bits .or .u8 (bt a0 x13_1) 32) != 98) = true := bne_iff_ne.mpr c30
                                                as_aux_lemma =>
                                                  simp only [Option.some.injEq, Prod.mk.injEq] at H
                                                  obtain ⟨rfl, rfl⟩ := H
                                                  go_wp2_with (first | ((with_reducible refine gate_callee (f := 15) rfl ?_); refine goesL_ (some 21) rfl rfl Tryz.func15 (by kernel_rfl) rfl #[] rfl (by (try simp only [List.map_toArray, List.map_cons, List.map_nil]); first | done | rfl | (simp only [List.length_drop, List.length_take]; rfl)) ?_; (with_reducible refine (math_NaN.calls  t106 _ A18.out).mono ?_); rintro e w' ⟨rfl, ⟨nd, rfl⟩⟩; refine ⟨_, rfl, ?_⟩; have p27 : 0 ≤ ((ji24) : Int) := of_decide_eq_true (by first | (with_reducible assumption) | assumption); have q27 : (ji24) < (a0.size : Int) := of_decide_eq_true (by first | (with_reducible assumption) | assumption); have hx27 := bt_at a0 (ji24); replace p27 := eq_true p27; replace q27 := eq_true q27))
                                                  go_ret2
                                                  exact ⟨by first | rfl | (simp; done) | (simp only [← hji24] <;> (first | rfl | simp)) | (simp [*]; done), by repeat (first | exact Drawn0.refl _ | apply Drawn0.step)⟩
                                          · rw [if_neg c28] at H
                                            have c28b0 : ((bt a0 (ji24)) == 48) = false := beq_eq_false_iff_ne.mpr c28
                                            have c28b1 : ((bt a0 (ji24)) != 48) = true := bne_iff_ne.mpr c28
                                            as_aux_lemma =>
                                              simp only [Option.some.injEq, Prod.mk.injEq] at H
                                              obtain ⟨rfl, rfl⟩ := H
                                              go_wp2_with (first | ((with_reducible refine gate_callee (f := 15) rfl ?_); refine goesL_ (some 21) rfl rfl Tryz.func15 (by kernel_rfl) rfl #[] rfl (by (try simp only [List.map_toArray, List.map_cons, List.map_nil]); first | done | rfl | (simp only [List.length_drop, List.length_take]; rfl)) ?_; (with_reducible refine (math_NaN.calls  t106 _ A18.out).mono ?_); rintro e w' ⟨rfl, ⟨nd, rfl⟩⟩; refine ⟨_, rfl, ?_⟩; have p27 : 0 ≤ ((ji24) : Int) := of_decide_eq_true (by first | (with_reducible assumption) | assumption); have q27 : (ji24) < (a0.size : Int) := of_decide_eq_true (by first | (with_reducible assumption) | assumption); have hx27 := bt_at a0 (ji24); replace p27 := eq_true p27; replace q27 := eq_true q27))
                                              go_ret2
                                              exact ⟨by first | rfl | (simp; done) | (simp only [← hji24] <;> (first | rfl | simp)) | (simp [*]; done), by repeat (first | exact Drawn0.refl _ | apply Drawn0.step)⟩
                                        · rw [if_neg c26] at H
                                          exact absurd H (by simp)
                                      · rw [if_neg c25] at H
                                        exact absurd H (by simp)
                                    · rw [if_neg c23] at H
                                      have c23b0 : (x5_1 == 1) = false := beq_eq_false_iff_ne.mpr c23
                                      have c23b1 : (x5_1 != 1) = true := bne_iff_ne.mpr c23
                                      as_aux_lemma =>
                                        simp only [Option.some.injEq, Prod.mk.injEq] at H
                                        obtain ⟨rfl, rfl⟩ := H
                                        go_wp2_with (first | ((with_reducible refine gate_callee (f := 15) rfl ?_); refine goesL_ (some 21) rfl rfl Tryz.func15 (by kernel_rfl) rfl #[] rfl (by (try simp only [List.map_toArray, List.map_cons, List.map_nil]); first | done | rfl | (simp only [List.length_drop, List.length_take]; rfl)) ?_; (with_reducible refine (math_NaN.calls  t106 _ A18.out).mono ?_); rintro e w' ⟨rfl, ⟨nd, rfl⟩⟩; refine ⟨_, rfl, ?_⟩))
                                        go_ret2
                                        exact ⟨by first | rfl | (simp; done) | (simp [*]; done), by repeat (first | exact Drawn0.refl _ | apply Drawn0.step)⟩
                              · rw [if_neg c20] at H
                                have c20b0 : (x5_1 == 0) = false := beq_eq_false_iff_ne.mpr c20
                                have c20b1 : (x5_1 != 0) = true := bne_iff_ne.mpr c20
                                by_cases c31 : x5_1 = 1
                                · rw [if_pos c31] at H
                                  have c31b0 : (x5_1 == 1) = true := beq_iff_eq.mpr c31
                                  have c31b1 : (x5_1 != 1) = false := bne_eq_false_iff_eq.mpr c31
                                  clear c31
                                  obtain ⟨ji32, hji32⟩ : ∃ j_ : Int, (wrap64 (x13_1 - 1)) = j_ := ⟨_, rfl⟩
                                  replace H : (if 0 ≤ (ji32) then (if (ji32) < (a0.size : Int) then (if (bt a0 (ji32)) = 48 then (if (Go.bits .or .u8 (bt a0 x13_1) 32) = 120 then (some (t106, false)) else (if (Go.bits .or .u8 (bt a0 x13_1) 32) = 98 then (some (t106, false)) else (some (t106, ((Go.bits .or .u8 (bt a0 x13_1) 32) != 111))))) else (some (t106, true))) else (none)) else (none)) = some (r1, r2) := by first | (rw [hji32] at H; exact H) | (simp only [hji32] at H ⊢; exact H)
                                  (try rw [hji32] at A18)
                                  have hji32w : (IntKind.i64.wrap (x13_1 - 1)) = ji32 := (i64_w _).trans hji32
                                  by_cases c33 : 0 ≤ (ji32)
                                  · rw [if_pos c33] at H
                                    have c33b0 : decide (0 ≤ (ji32)) = true := decide_eq_true c33
                                    clear c33
                                    by_cases c34 : (ji32) < (a0.size : Int)
                                    · rw [if_pos c34] at H
                                      have c34b0 : decide ((ji32) < (a0.size : Int)) = true := decide_eq_true c34
                                      clear c34
                                      by_cases c36 : (bt a0 (ji32)) = 48
                                      · rw [if_pos c36] at H
                                        have c36b0 : ((bt a0 (ji32)) == 48) = true := beq_iff_eq.mpr c36
                                        have c36b1 : ((bt a0 (ji32)) != 48) = false := bne_eq_false_iff_eq.mpr c36
                                        clear c36
                                        by_cases c37 : (Go.bits .or .u8 (bt a0 x13_1) 32) = 120
                                        · rw [if_pos c37] at H
                                          have c37b0 : ((Go.bits .or .u8 (bt a0 x13_1) 32) == 120) = true := beq_iff_eq.mpr c37
                                          have c37b1 : ((Go.bits .or .u8 (bt a0 x13_1) 32) != 120) = false := bne_eq_false_iff_eq.mpr c37
                                          clear c37
                                          as_aux_lemma =>
                                            simp only [Option.some.injEq, Prod.mk.injEq] at H
                                            obtain ⟨rfl, rfl⟩ := H
                                            go_wp2_with (first | ((with_reducible refine gate_callee (f := 15) rfl ?_); refine goesL_ (some 21) rfl rfl Tryz.func15 (by kernel_rfl) rfl #[] rfl (by (try simp only [List.map_toArray, List.map_cons, List.map_nil]); first | done | rfl | (simp only [List.length_drop, List.length_take]; rfl)) ?_; (with_reducible refine (math_NaN.calls  t106 _ A18.out).mono ?_); rintro e w' ⟨rfl, ⟨nd, rfl⟩⟩; refine ⟨_, rfl, ?_⟩; have p35 : 0 ≤ ((ji32) : Int) := of_decide_eq_true (by first | (with_reducible assumption) | assumption); have q35 : (ji32) < (a0.size : Int) := of_decide_eq_true (by first | (with_reducible assumption) | assumption); have hx35 := bt_at a0 (ji32); replace p35 := eq_true p35; replace q35 := eq_true q35))
                                            go_ret2
                                            exact ⟨by first | rfl | (simp; done) | (simp only [← hji32] <;> (first | rfl | simp)) | (simp [*]; done), by repeat (first | exact Drawn0.refl _ | apply Drawn0.step)⟩
                                        · rw [if_neg c37] at H
                                          have c37b0 : ((Go.bits .or .u8 (bt a0 x13_1) 32) == 120) = false := beq_eq_false_iff_ne.mpr c37
                                          have c37b1 : ((Go.bits .or .u8 (bt a0 x13_1) 32) != 120) = true := bne_iff_ne.mpr c37
                                          by_cases c38 : (Go.bits .or .u8 (bt a0 x13_1) 32) = 98
                                          · rw [if_pos c38] at H
                                            have c38b0 : ((Go.bits .or .u8 (bt a0 x13_1) 32) == 98) = true := beq_iff_eq.mpr c38
                                            have c38b1 : ((Go.bits .or .u8 (bt a0 x13_1) 32) != 98) = false := bne_eq_false_iff_eq.mpr c38
                                            clear c38
                                            as_aux_lemma =>
                                              simp only [Option.some.injEq, Prod.mk.injEq] at H
                                              obtain ⟨rfl, rfl⟩ := H
                                              go_wp2_with (first | ((with_reducible refine gate_callee (f := 15) rfl ?_); refine goesL_ (some 21) rfl rfl Tryz.func15 (by kernel_rfl) rfl #[] rfl (by (try simp only [List.map_toArray, List.map_cons, List.map_nil]); first | done | rfl | (simp only [List.length_drop, List.length_take]; rfl)) ?_; (with_reducible refine (math_NaN.calls  t106 _ A18.out).mono ?_); rintro e w' ⟨rfl, ⟨nd, rfl⟩⟩; refine ⟨_, rfl, ?_⟩; have p35 : 0 ≤ ((ji32) : Int) := of_decide_eq_true (by first | (with_reducible assumption) | assumption); have q35 : (ji32) < (a0.size : Int) := of_decide_eq_true (by first | (with_reducible assumption) | assumption); have hx35 := bt_at a0 (ji32); replace p35 := eq_true p35; replace q35 := eq_true q35))
                                              go_ret2
                                              exact ⟨by first | rfl | (simp; done) | (simp only [← hji32] <;> (first | rfl | simp)) | (simp [*]; done), by repeat (first | exact Drawn0.refl _ | apply Drawn0.step)⟩
                                          · rw [if_neg c38] at H
                                            have c38b0 : ((Go.bits .or .u8 (bt a0 x13_1) 32) == 98) = false := beq_eq_false_iff_ne.mpr c38
                                            have c38b1 : ((Go.bits .or .u8 (bt a0 x13_1) 32) != 98) = true := bne_iff_ne.mpr c38
                                            as_aux_lemma =>
                                              simp only [Option.some.injEq, Prod.mk.injEq] at H
                                              obtain ⟨rfl, rfl⟩ := H
                                              go_wp2_with (first | ((with_reducible refine gate_callee (f := 15) rfl ?_); refine goesL_ (some 21) rfl rfl Tryz.func15 (by kernel_rfl) rfl #[] rfl (by (try simp only [List.map_toArray, List.map_cons, List.map_nil]); first | done | rfl | (simp only [List.length_drop, List.length_take]; rfl)) ?_; (with_reducible refine (math_NaN.calls  t106 _ A18.out).mono ?_); rintro e w' ⟨rfl, ⟨nd, rfl⟩⟩; refine ⟨_, rfl, ?_⟩; have p35 : 0 ≤ ((ji32) : Int) := of_decide_eq_true (by first | (with_reducible assumption) | assumption); have q35 : (ji32) < (a0.size : Int) := of_decide_eq_true (by first | (with_reducible assumption) | assumption); have hx35 := bt_at a0 (ji32); replace p35 := eq_true p35; replace q35 := eq_true q35))
                                              go_ret2
                                              exact ⟨by first | rfl | (simp; done) | (simp only [← hji32] <;> (first | rfl | simp)) | (simp [*]; done), by repeat (first | exact Drawn0.refl _ | apply Drawn0.step)⟩
                                      · rw [if_neg c36] at H
                                        have c36b0 : ((bt a0 (ji32)) == 48) = false := beq_eq_false_iff_ne.mpr c36
                                        have c36b1 : ((bt a0 (ji32)) != 48) = true := bne_iff_ne.mpr c36
                                        as_aux_lemma =>
                                          simp only [Option.some.injEq, Prod.mk.injEq] at H
                                          obtain ⟨rfl, rfl⟩ := H
                                          go_wp2_with (first | ((with_reducible refine gate_callee (f := 15) rfl ?_); refine goesL_ (some 21) rfl rfl Tryz.func15 (by kernel_rfl) rfl #[] rfl (by (try simp only [List.map_toArray, List.map_cons, List.map_nil]); first | done | rfl | (simp only [List.length_drop, List.length_take]; rfl)) ?_; (with_reducible refine (math_NaN.calls  t106 _ A18.out).mono ?_); rintro e w' ⟨rfl, ⟨nd, rfl⟩⟩; refine ⟨_, rfl, ?_⟩; have p35 : 0 ≤ ((ji32) : Int) := of_decide_eq_true (by first | (with_reducible assumption) | assumption); have q35 : (ji32) < (a0.size : Int) := of_decide_eq_true (by first | (with_reducible assumption) | assumption); have hx35 := bt_at a0 (ji32); replace p35 := eq_true p35; replace q35 := eq_true q35))
                                          go_ret2
                                          exact ⟨by first | rfl | (simp; done) | (simp only [← hji32] <;> (first | rfl | simp)) | (simp [*]; done), by repeat (first | exact Drawn0.refl _ | apply Drawn0.step)⟩
                                    · rw [if_neg c34] at H
                                      exact absurd H (by simp)
                                  · rw [if_neg c33] at H
                                    exact absurd H (by simp)
                                · rw [if_neg c31] at H
                                  have c31b0 : (x5_1 == 1) = false := beq_eq_false_iff_ne.mpr c31
                                  have c31b1 : (x5_1 != 1) = true := bne_iff_ne.mpr c31
                                  as_aux_lemma =>
                                    simp only [Option.some.injEq, Prod.mk.injEq] at H
                                    obtain ⟨rfl, rfl⟩ := H
                                    go_wp2_with (first | ((with_reducible refine gate_callee (f := 15) rfl ?_); refine goesL_ (some 21) rfl rfl Tryz.func15 (by kernel_rfl) rfl #[] rfl (by (try simp only [List.map_toArray, List.map_cons, List.map_nil]); first | done | rfl | (simp only [List.length_drop, List.length_take]; rfl)) ?_; (with_reducible refine (math_NaN.calls  t106 _ A18.out).mono ?_); rintro e w' ⟨rfl, ⟨nd, rfl⟩⟩; refine ⟨_, rfl, ?_⟩))
                                    go_ret2
                                    exact ⟨by first | rfl | (simp; done) | (simp [*]; done), by repeat (first | exact Drawn0.refl _ | apply Drawn0.step)⟩
                        · rw [if_neg c16] at H
                          have c16b0 : ((bt a0 x13_1) == 101) = false := beq_eq_false_iff_ne.mpr c16
                          have c16b1 : ((bt a0 x13_1) != 101) = true := bne_iff_ne.mpr c16
                          by_cases c39 : (bt a0 x13_1) = 69
                          · rw [if_pos c39] at H
                            have c39b0 : ((bt a0 x13_1) == 69) = true := beq_iff_eq.mpr c39
                            have c39b1 : ((bt a0 x13_1) != 69) = false := bne_eq_false_iff_eq.mpr c39
                            clear c39
                            by_cases c40 : x5_1 > 0
                            · rw [if_pos c40] at H
                              have c40b0 : decide (0 < x5_1) = true := decide_eq_true c40
                              clear c40
                              as_aux_lemma =>
                                simp only [Option.some.injEq, Prod.mk.injEq] at H
                                obtain ⟨rfl, rfl⟩ := H
                                go_wp2
                                go_ret2
                                exact ⟨by first | rfl | (simp; done) | (simp [*]; done), by repeat (first | exact Drawn0.refl _ | apply Drawn0.step)⟩
                            · rw [if_neg c40] at H
                              have c40b0 : decide (0 < x5_1) = false := decide_eq_false c40
                              clear c40
                              replace H := Option.bind_eq_some_iff.mp H
                              obtain ⟨t107, A410, H⟩ := H
                              replace H : (if (bt a0 x13_1) = 95 then (some (t107, false)) else (if x5_1 = 0 then (if (Go.bits .or .u8 (bt a0 x13_1) 32) = 105 then (some (t107, false)) else (if (Go.bits .or .u8 (bt a0 x13_1) 32) = 110 then (some (t107, false)) else (if x5_1 = 1 then (if 0 ≤ (wrap64 (x13_1 - 1)) then (if (wrap64 (x13_1 - 1)) < (a0.size : Int) then (if (bt a0 (wrap64 (x13_1 - 1))) = 48 then (if (Go.bits .or .u8 (bt a0 x13_1) 32) = 120 then (some (t107, false)) else (if (Go.bits .or .u8 (bt a0 x13_1) 32) = 98 then (some (t107, false)) else (some (t107, ((Go.bits .or .u8 (bt a0 x13_1) 32) != 111))))) else (some (t107, true))) else (none)) else (none)) else (some (t107, true))))) else (if x5_1 = 1 then (if 0 ≤ (wrap64 (x13_1 - 1)) then (if (wrap64 (x13_1 - 1)) < (a0.size : Int) then (if (bt a0 (wrap64 (x13_1 - 1))) = 48 then (if (Go.bits .or .u8 (bt a0 x13_1) 32) = 120 then (some (t107, false)) else (if (Go.bits .or .u8 (bt a0 x13_1) 32) = 98 then (some (t107, false)) else (some (t107, ((Go.bits .or .u8 (bt a0 x13_1) 32) != 111))))) else (some (t107, true))) else (none)) else (none)) else (some (t107, true))))) = some (r1, r2) := H
                              have A41 := Aside0.mk A410
                              clear A410
                              by_cases c42 : (bt a0 x13_1) = 95
                              · rw [if_pos c42] at H
                                have c42b0 : ((bt a0 x13_1) == 95) = true := beq_iff_eq.mpr c42
                                have c42b1 : ((bt a0 x13_1) != 95) = false := bne_eq_false_iff_eq.mpr c42
                                clear c42
                                as_aux_lemma =>
                                  simp only [Option.some.injEq, Prod.mk.injEq] at H
                                  obtain ⟨rfl, rfl⟩ := H
                                  go_wp2_with (first | ((with_reducible refine gate_callee (f := 15) rfl ?_); refine goesL_ (some 21) rfl rfl Tryz.func15 (by kernel_rfl) rfl #[] rfl (by (try simp only [List.map_toArray, List.map_cons, List.map_nil]); first | done | rfl | (simp only [List.length_drop, List.length_take]; rfl)) ?_; (with_reducible refine (math_NaN.calls  t107 _ A41.out).mono ?_); rintro e w' ⟨rfl, ⟨nd, rfl⟩⟩; refine ⟨_, rfl, ?_⟩))
                                  go_ret2
                                  exact ⟨by first | rfl | (simp; done) | (simp [*]; done), by repeat (first | exact Drawn0.refl _ | apply Drawn0.step)⟩
                              · rw [if_neg c42] at H
                                have c42b0 : ((bt a0 x13_1) == 95) = false := beq_eq_false_iff_ne.mpr c42
                                have c42b1 : ((bt a0 x13_1) != 95) = true := bne_iff_ne.mpr c42
                                by_cases c43 : x5_1 = 0
                                · rw [if_pos c43] at H
                                  have c43b0 : (x5_1 == 0) = true := beq_iff_eq.mpr c43
                                  have c43b1 : (x5_1 != 0) = false := bne_eq_false_iff_eq.mpr c43
                                  clear c43
                                  by_cases c44 : (Go.bits .or .u8 (bt a0 x13_1) 32) = 105
                                  · rw [if_pos c44] at H
                                    have c44b0 : ((Go.bits .or .u8 (bt a0 x13_1) 32) == 105) = true := beq_iff_eq.mpr c44
                                    have c44b1 : ((Go.bits .or .u8 (bt a0 x13_1) 32) != 105) = false := bne_eq_false_iff_eq.mpr c44
                                    clear c44
                                    as_aux_lemma =>
                                      simp only [Option.some.injEq, Prod.mk.injEq] at H
                                      obtain ⟨rfl, rfl⟩ := H
                                      go_wp2_with (first | ((with_reducible refine gate_callee (f := 15) rfl ?_); refine goesL_ (some 21) rfl rfl Tryz.func15 (by kernel_rfl) rfl #[] rfl (by (try simp only [List.map_toArray, List.map_cons, List.map_nil]); first | done | rfl | (simp only [List.length_drop, List.length_take]; rfl)) ?_; (with_reducible refine (math_NaN.calls  t107 _ A41.out).mono ?_); rintro e w' ⟨rfl, ⟨nd, rfl⟩⟩; refine ⟨_, rfl, ?_⟩))
                                      go_ret2
                                      exact ⟨by first | rfl | (simp; done) | (simp [*]; done), by repeat (first | exact Drawn0.refl _ | apply Drawn0.step)⟩
                                  · rw [if_neg c44] at H
                                    have c44b0 : ((Go.bits .or .u8 (bt a0 x13_1) 32) == 105) = false := beq_eq_false_iff_ne.mpr c44
                                    have c44b1 : ((Go.bits .or .u8 (bt a0 x13_1) 32) != 105) = true := bne_iff_ne.mpr c44
                                    by_cases c45 : (Go.bits .or .u8 (bt a0 x13_1) 32) = 110
                                    · rw [if_pos c45] at H
                                      have c45b0 : ((Go.bits .or .u8 (bt a0 x13_1) 32) == 110) = true := beq_iff_eq.mpr c45
                                      have c45b1 : ((Go.bits .or .u8 (bt a0 x13_1) 32) != 110) = false := bne_eq_false_iff_eq.mpr c45
                                      clear c45
                                      as_aux_lemma =>
                                        simp only [Option.some.injEq, Prod.mk.injEq] at H
                                        obtain ⟨rfl, rfl⟩ := H
                                        go_wp2_with (first | ((with_reducible refine gate_callee (f := 15) rfl ?_); refine goesL_ (some 21) rfl rfl Tryz.func15 (by kernel_rfl) rfl #[] rfl (by (try simp only [List.map_toArray, List.map_cons, List.map_nil]); first | done | rfl | (simp only [List.length_drop, List.length_take]; rfl)) ?_; (with_reducible refine (math_NaN.calls  t107 _ A41.out).mono ?_); rintro e w' ⟨rfl, ⟨nd, rfl⟩⟩; refine ⟨_, rfl, ?_⟩))
                                        go_ret2
                                        exact ⟨by first | rfl | (simp; done) | (simp [*]; done), by repeat (first | exact Drawn0.refl _ | apply Drawn0.step)⟩
                                    · rw [if_neg c45] at H
                                      have c45b0 : ((Go.bits .or .u8 (bt a0 x13_1) 32) == 110) = false := beq_eq_false_iff_ne.mpr c45
                                      have c45b1 : ((Go.bits .or .u8 (bt a0 x13_1) 32) != 110) = true := bne_iff_ne.mpr c45
                                      by_cases c46 : x5_1 = 1
                                      · rw [if_pos c46] at H
                                        have c46b0 : (x5_1 == 1) = true := beq_iff_eq.mpr c46
                                        have c46b1 : (x5_1 != 1) = false := bne_eq_false_iff_eq.mpr c46
                                        clear c46
                                        obtain ⟨ji47, hji47⟩ : ∃ j_ : Int, (wrap64 (x13_1 - 1)) = j_ := ⟨_, rfl⟩
                                        replace H : (if 0 ≤ (ji47) then (if (ji47) < (a0.size : Int) then (if (bt a0 (ji47)) = 48 then (if (Go.bits .or .u8 (bt a0 x13_1) 32) = 120 then (some (t107, false)) else (if (Go.bits .or .u8 (bt a0 x13_1) 32) = 98 then (some (t107, false)) else (some (t107, ((Go.bits .or .u8 (bt a0 x13_1) 32) != 111))))) else (some (t107, true))) else (none)) else (none)) = some (r1, r2) := by first | (rw [hji47] at H; exact H) | (simp only [hji47] at H ⊢; exact H)
                                        (try rw [hji47] at A41)
                                        have hji47w : (IntKind.i64.wrap (x13_1 - 1)) = ji47 := (i64_w _).trans hji47
                                        by_cases c48 : 0 ≤ (ji47)
                                        · rw [if_pos c48] at H
                                          have c48b0 : decide (0 ≤ (ji47)) = true := decide_eq_true c48
                                          clear c48
                                          by_cases c49 : (ji47) < (a0.size : Int)
                                          · rw [if_pos c49] at H
                                            have c49b0 : decide ((ji47) < (a0.size : Int)) = true := decide_eq_true c49
                                            clear c49
                                            by_cases c51 : (bt a0 (ji47)) = 48
                                            · rw [if_pos c51] at H
                                              have c51b0 : ((bt a0 (ji47)) == 48) = true := beq_iff_eq.mpr c51
                                              have c51b1 : ((bt a0 (ji47)) != 48) = false := bne_eq_false_iff_eq.mpr c51
                                              clear c51
                                              by_cases c52 : (Go.bits .or .u8 (bt a0 x13_1) 32) = 120
                                              · rw [if_pos c52] at H
                                                have c52b0 : ((Go.bits .or .u8 (bt a0 x13_1) 32) == 120) = true := beq_iff_eq.mpr c52
                                                have c52b1 : ((Go.bits .or .u8 (bt a0 x13_1) 32) != 120) = false := bne_eq_false_iff_eq.mpr c52
                                                clear c52
                                                as_aux_lemma =>
                                                  simp only [Option.some.injEq, Prod.mk.injEq] at H
                                                  obtain ⟨rfl, rfl⟩ := H
                                                  go_wp2_with (first | ((with_reducible refine gate_callee (f := 15) rfl ?_); refine goesL_ (some 21) rfl rfl Tryz.func15 (by kernel_rfl) rfl #[] rfl (by (try simp only [List.map_toArray, List.map_cons, List.map_nil]); first | done | rfl | (simp only [List.length_drop, List.length_take]; rfl)) ?_; (with_reducible refine (math_NaN.calls  t107 _ A41.out).mono ?_); rintro e w' ⟨rfl, ⟨nd, rfl⟩⟩; refine ⟨_, rfl, ?_⟩; have p50 : 0 ≤ ((ji47) : Int) := of_decide_eq_true (by first | (with_reducible assumption) | assumption); have q50 : (ji47) < (a0.size : Int) := of_decide_eq_true (by first | (with_reducible assumption) | assumption); have hx50 := bt_at a0 (ji47); replace p50 := eq_true p50; replace q50 := eq_true q50))
                                                  go_ret2
                                                  exact ⟨by first | rfl | (simp; done) | (simp only [← hji47] <;> (first | rfl | simp)) | (simp [*]; done), by repeat (first | exact Drawn0.refl _ | apply Drawn0.step)⟩
                                              · rw [if_neg c52] at H
                                                have c52b0 : ((Go.bits .or .u8 (bt a0 x13_1) 32) == 120) = false := beq_eq_false_iff_ne.mpr c52
                                                have c52b1 : ((Go.bits .or .u8 (bt a0 x13_1) 32) != 120) = true := bne_iff_ne.mpr c52
                                                by_cases c53 : (Go.bits .or .u8 (bt a0 x13_1) 32) = 98
                                                · rw [if_pos c53] at H
                                                  have c53b0 : ((Go.bits .or .u8 (bt a0 x13_1) 32) == 98) = true := beq_iff_eq.mpr c53
                                                  have c53b1 : ((Go.bits .or .u8 (bt a0 x13_1) 32) != 98) = false := bne_eq_false_iff_eq.mpr c53
                                                  clear c53
                                                  as_aux_lemma =>
                                                    simp only [Option.some.injEq, Prod.mk.injEq] at H
                                                    obtain ⟨rfl, rfl⟩ := H
                                                    go_wp2_with (first | ((with_reducible refine gate_callee (f := 15) rfl ?_); refine goesL_ (some 21) rfl rfl Tryz.func15 (by kernel_rfl) rfl #[] rfl (by (try simp only [List.map_toArray, List.map_cons, List.map_nil]); first | done | rfl | (simp only [List.length_drop, List.length_take]; rfl)) ?_; (with_reducible refine (math_NaN.calls  t107 _ A41.out).mono ?_); rintro e w' ⟨rfl, ⟨nd, rfl⟩⟩; refine ⟨_, rfl, ?_⟩; have p50 : 0 ≤ ((ji47) : Int) := of_decide_eq_true (by first | (with_reducible assumption) | assumption); have q50 : (ji47) < (a0.size : Int) := of_decide_eq_true (by first | (with_reducible assumption) | assumption); have hx50 := bt_at a0 (ji47); replace p50 := eq_true p50; replace q50 := eq_true q50))
                                                    go_ret2
                                                    exact ⟨by first | rfl | (simp; done) | (simp only [← hji47] <;> (first | rfl | simp)) | (simp [*]; done), by repeat (first | exact Drawn0.refl _ | apply Drawn0.step)⟩
                                                · rw [if_neg c53] at H
                                                  have c53b0 : ((Go.bits .or .u8 (bt a0 x13_1) 32) == 98) = false := beq_eq_false_iff_ne.mpr c53
                                                  have c53b1 : ((Go.bits .or .u8 (bt a0 x13_1) 32) != 98) = true := bne_iff_ne.mpr c53
                                                  as_aux_lemma =>
                                                    simp only [Option.some.injEq, Prod.mk.injEq] at H
                                                    obtain ⟨rfl, rfl⟩ := H
                                                    go_wp2_with (first | ((with_reducible refine gate_callee (f := 15) rfl ?_); refine goesL_ (some 21) rfl rfl Tryz.func15 (by kernel_rfl) rfl #[] rfl (by (try simp only [List.map_toArray, List.map_cons, List.map_nil]); first | done | rfl | (simp only [List.length_drop, List.length_take]; rfl)) ?_; (with_reducible refine (math_NaN.calls  t107 _ A41.out).mono ?_); rintro e w' ⟨rfl, ⟨nd, rfl⟩⟩; refine ⟨_, rfl, ?_⟩; have p50 : 0 ≤ ((ji47) : Int) := of_decide_eq_true (by first | (with_reducible assumption) | assumption); have q50 : (ji47) < (a0.size : Int) := of_decide_eq_true (by first | (with_reducible assumption) | assumption); have hx50 := bt_at a0 (ji47); replace p50 := eq_true p50; replace q50 := eq_true q50))
                                                    go_ret2
                                                    exact ⟨by first | rfl | (simp; done) | (simp only [← hji47] <;> (first | rfl | simp)) | (simp [*]; done), by repeat (first | exact Drawn0.refl _ | apply Drawn0.step)⟩
                                            · rw [if_neg c51] at H
                                              have c51b0 : ((bt a0 (ji47)) == 48) = false := beq_eq_false_iff_ne.mpr c51
                                              have c51b1 : ((bt a0 (ji47)) != 48) = true := bne_iff_ne.mpr c51
                                              as_aux_lemma =>
                                                simp only [Option.some.injEq, Prod.mk.injEq] at H
                                                obtain ⟨rfl, rfl⟩ := H
                                                go_wp2_with (first | ((with_reducible refine gate_callee (f := 15) rfl ?_); refine goesL_ (some 21) rfl rfl Tryz.func15 (by kernel_rfl) rfl #[] rfl (by (try simp only [List.map_toArray, List.map_cons, List.map_nil]); first | done | rfl | (simp only [List.length_drop, List.length_take]; rfl)) ?_; (with_reducible refine (math_NaN.calls  t107 _ A41.out).mono ?_); rintro e w' ⟨rfl, ⟨nd, rfl⟩⟩; refine ⟨_, rfl, ?_⟩; have p50 : 0 ≤ ((ji47) : Int) := of_decide_eq_true (by first | (with_reducible assumption) | assumption); have q50 : (ji47) < (a0.size : Int) := of_decide_eq_true (by first | (with_reducible assumption) | assumption); have hx50 := bt_at a0 (ji47); replace p50 := eq_true p50; replace q50 := eq_true q50))
                                                go_ret2
                                                exact ⟨by first | rfl | (simp; done) | (simp only [← hji47] <;> (first | rfl | simp)) | (simp [*]; done), by repeat (first | exact Drawn0.refl _ | apply Drawn0.step)⟩
                                          · rw [if_neg c49] at H
                                            exact absurd H (by simp)
                                        · rw [if_neg c48] at H
                                          exact absurd H (by simp)
                                      · rw [if_neg c46] at H
                                        have c46b0 : (x5_1 == 1) = false := beq_eq_false_iff_ne.mpr c46
                                        have c46b1 : (x5_1 != 1) = true := bne_iff_ne.mpr c46
                                        as_aux_lemma =>
                                          simp only [Option.some.injEq, Prod.mk.injEq] at H
                                          obtain ⟨rfl, rfl⟩ := H
                                          go_wp2_with (first | ((with_reducible refine gate_callee (f := 15) rfl ?_); refine goesL_ (some 21) rfl rfl Tryz.func15 (by kernel_rfl) rfl #[] rfl (by (try simp only [List.map_toArray, List.map_cons, List.map_nil]); first | done | rfl | (simp only [List.length_drop, List.length_take]; rfl)) ?_; (with_reducible refine (math_NaN.calls  t107 _ A41.out).mono ?_); rintro e w' ⟨rfl, ⟨nd, rfl⟩⟩; refine ⟨_, rfl, ?_⟩))
                                          go_ret2
                                          exact ⟨by first | rfl | (simp; done) | (simp [*]; done), by repeat (first | exact Drawn0.refl _ | apply Drawn0.step)⟩
                                · rw [if_neg c43] at H
                                  have c43b0 : (x5_1 == 0) = false := beq_eq_false_iff_ne.mpr c43
                                  have c43b1 : (x5_1 != 0) = true := bne_iff_ne.mpr c43
                                  by_cases c54 : x5_1 = 1
                                  · rw [if_pos c54] at H
                                    have c54b0 : (x5_1 == 1) = true := beq_iff_eq.mpr c54
                                    have c54b1 : (x5_1 != 1) = false := bne_eq_false_iff_eq.mpr c54
                                    clear c54
                                    obtain ⟨ji55, hji55⟩ : ∃ j_ : Int, (wrap64 (x13_1 - 1)) = j_ := ⟨_, rfl⟩
                                    replace H : (if 0 ≤ (ji55) then (if (ji55) < (a0.size : Int) then (if (bt a0 (ji55)) = 48 then (if (Go.bits .or .u8 (bt a0 x13_1) 32) = 120 then (some (t107, false)) else (if (Go.bits .or .u8 (bt a0 x13_1) 32) = 98 then (some (t107, false)) else (some (t107, ((Go.bits .or .u8 (bt a0 x13_1) 32) != 111))))) else (some (t107, true))) else (none)) else (none)) = some (r1, r2) := by first | (rw [hji55] at H; exact H) | (simp only [hji55] at H ⊢; exact H)
                                    (try rw [hji55] at A41)
                                    have hji55w : (IntKind.i64.wrap (x13_1 - 1)) = ji55 := (i64_w _).trans hji55
                                    by_cases c56 : 0 ≤ (ji55)
                                    · rw [if_pos c56] at H
                                      have c56b0 : decide (0 ≤ (ji55)) = true := decide_eq_true c56
                                      clear c56
                                      by_cases c57 : (ji55) < (a0.size : Int)
                                      · rw [if_pos c57] at H
                                        have c57b0 : decide ((ji55) < (a0.size : Int)) = true := decide_eq_true c57
                                        clear c57
                                        by_cases c59 : (bt a0 (ji55)) = 48
                                        · rw [if_pos c59] at H
                                          have c59b0 : ((bt a0 (ji55)) == 48) = true := beq_iff_eq.mpr c59
                                          have c59b1 : ((bt a0 (ji55)) != 48) = false := bne_eq_false_iff_eq.mpr c59
                                          clear c59
                                          by_cases c60 : (Go.bits .or .u8 (bt a0 x13_1) 32) = 120
                                          · rw [if_pos c60] at H
                                            have c60b0 : ((Go.bits .or .u8 (bt a0 x13_1) 32) == 120) = true := beq_iff_eq.mpr c60
                                            have c60b1 : ((Go.bits .or .u8 (bt a0 x13_1) 32) != 120) = false := bne_eq_false_iff_eq.mpr c60
                                            clear c60
                                            as_aux_lemma =>
                                              simp only [Option.some.injEq, Prod.mk.injEq] at H
                                              obtain ⟨rfl, rfl⟩ := H
                                              go_wp2_with (first | ((with_reducible refine gate_callee (f := 15) rfl ?_); refine goesL_ (some 21) rfl rfl Tryz.func15 (by kernel_rfl) rfl #[] rfl (by (try simp only [List.map_toArray, List.map_cons, List.map_nil]); first | done | rfl | (simp only [List.length_drop, List.length_take]; rfl)) ?_; (with_reducible refine (math_NaN.calls  t107 _ A41.out).mono ?_); rintro e w' ⟨rfl, ⟨nd, rfl⟩⟩; refine ⟨_, rfl, ?_⟩; have p58 : 0 ≤ ((ji55) : Int) := of_decide_eq_true (by first | (with_reducible assumption) | assumption); have q58 : (ji55) < (a0.size : Int) := of_decide_eq_true (by first | (with_reducible assumption) | assumption); have hx58 := bt_at a0 (ji55); replace p58 := eq_true p58; replace q58 := eq_true q58))
                                              go_ret2
                                              exact ⟨by first | rfl | (simp; done) | (simp only [← hji55] <;> (first | rfl | simp)) | (simp [*]; done), by repeat (first | exact Drawn0.refl _ | apply Drawn0.step)⟩
                                          · rw [if_neg c60] at H
                                            have c60b0 : ((Go.bits .or .u8 (bt a0 x13_1) 32) == 120) = false := beq_eq_false_iff_ne.mpr c60
                                            have c60b1 : ((Go.bits .or .u8 (bt a0 x13_1) 32) != 120) = true := bne_iff_ne.mpr c60
                                            by_cases c61 : (Go.bits .or .u8 (bt a0 x13_1) 32) = 98
                                            · rw [if_pos c61] at H
                                              have c61b0 : ((Go.bits .or .u8 (bt a0 x13_1) 32) == 98) = true := beq_iff_eq.mpr c61
                                              have c61b1 : ((Go.bits .or .u8 (bt a0 x13_1) 32) != 98) = false := bne_eq_false_iff_eq.mpr c61
                                              clear c61
                                              as_aux_lemma =>
                                                simp only [Option.some.injEq, Prod.mk.injEq] at H
                                                obtain ⟨rfl, rfl⟩ := H
                                                go_wp2_with (first | ((with_reducible refine gate_callee (f := 15) rfl ?_); refine goesL_ (some 21) rfl rfl Tryz.func15 (by kernel_rfl) rfl #[] rfl (by (try simp only [List.map_toArray, List.map_cons, List.map_nil]); first | done | rfl | (simp only [List.length_drop, List.length_take]; rfl)) ?_; (with_reducible refine (math_NaN.calls  t107 _ A41.out).mono ?_); rintro e w' ⟨rfl, ⟨nd, rfl⟩⟩; refine ⟨_, rfl, ?_⟩; have p58 : 0 ≤ ((ji55) : Int) := of_decide_eq_true (by first | (with_reducible assumption) | assumption); have q58 : (ji55) < (a0.size : Int) := of_decide_eq_true (by first | (with_reducible assumption) | assumption); have hx58 := bt_at a0 (ji55); replace p58 := eq_true p58; replace q58 := eq_true q58))
                                                go_ret2
                                                exact ⟨by first | rfl | (simp; done) | (simp only [← hji55] <;> (first | rfl | simp)) | (simp [*]; done), by repeat (first | exact Drawn0.refl _ | apply Drawn0.step)⟩
                                            · rw [if_neg c61] at H
                                              have c61b0 : ((Go.bits .or .u8 (bt a0 x13_1) 32) == 98) = false := beq_eq_false_iff_ne.mpr c61
                                              have c61b1 : ((Go.bits .or .u8 (bt a0 x13_1) 32) != 98) = true := bne_iff_ne.mpr c61
                                              as_aux_lemma =>
                                                simp only [Option.some.injEq, Prod.mk.injEq] at H
                                                obtain ⟨rfl, rfl⟩ := H
                                                go_wp2_with (first | ((with_reducible refine gate_callee (f := 15) rfl ?_); refine goesL_ (some 21) rfl rfl Tryz.func15 (by kernel_rfl) rfl #[] rfl (by (try simp only [List.map_toArray, List.map_cons, List.map_nil]); first | done | rfl | (simp only [List.length_drop, List.length_take]; rfl)) ?_; (with_reducible refine (math_NaN.calls  t107 _ A41.out).mono ?_); rintro e w' ⟨rfl, ⟨nd, rfl⟩⟩; refine ⟨_, rfl, ?_⟩; have p58 : 0 ≤ ((ji55) : Int) := of_decide_eq_true (by first | (with_reducible assumption) | assumption); have q58 : (ji55) < (a0.size : Int) := of_decide_eq_true (by first | (with_reducible assumption) | assumption); have hx58 := bt_at a0 (ji55); replace p58 := eq_true p58; replace q58 := eq_true q58))
                                                go_ret2
                                                exact ⟨by first | rfl | (simp; done) | (simp only [← hji55] <;> (first | rfl | simp)) | (simp [*]; done), by repeat (first | exact Drawn0.refl _ | apply Drawn0.step)⟩
                                        · rw [if_neg c59] at H
                                          have c59b0 : ((bt a0 (ji55)) == 48) = false := beq_eq_false_iff_ne.mpr c59
                                          have c59b1 : ((bt a0 (ji55)) != 48) = true := bne_iff_ne.mpr c59
                                          as_aux_lemma =>
                                            simp only [Option.some.injEq, Prod.mk.injEq] at H
                                            obtain ⟨rfl, rfl⟩ := H
                                            go_wp2_with (first | ((with_reducible refine gate_callee (f := 15) rfl ?_); refine goesL_ (some 21) rfl rfl Tryz.func15 (by kernel_rfl) rfl #[] rfl (by (try simp only [List.map_toArray, List.map_cons, List.map_nil]); first | done | rfl | (simp only [List.length_drop, List.length_take]; rfl)) ?_; (with_reducible refine (math_NaN.calls  t107 _ A41.out).mono ?_); rintro e w' ⟨rfl, ⟨nd, rfl⟩⟩; refine ⟨_, rfl, ?_⟩; have p58 : 0 ≤ ((ji55) : Int) := of_decide_eq_true (by first | (with_reducible assumption) | assumption); have q58 : (ji55) < (a0.size : Int) := of_decide_eq_true (by first | (with_reducible assumption) | assumption); have hx58 := bt_at a0 (ji55); replace p58 := eq_true p58; replace q58 := eq_true q58))
                                            go_ret2
                                            exact ⟨by first | rfl | (simp; done) | (simp only [← hji55] <;> (first | rfl | simp)) | (simp [*]; done), by repeat (first | exact Drawn0.refl _ | apply Drawn0.step)⟩
                                      · rw [if_neg c57] at H
                                        exact absurd H (by simp)
                                    · rw [if_neg c56] at H
                                      exact absurd H (by simp)
                                  · rw [if_neg c54] at H
                                    have c54b0 : (x5_1 == 1) = false := beq_eq_false_iff_ne.mpr c54
                                    have c54b1 : (x5_1 != 1) = true := bne_iff_ne.mpr c54
                                    as_aux_lemma =>
                                      simp only [Option.some.injEq, Prod.mk.injEq] at H
                                      obtain ⟨rfl, rfl⟩ := H
                                      go_wp2_with (first | ((with_reducible refine gate_callee (f := 15) rfl ?_); refine goesL_ (some 21) rfl rfl Tryz.func15 (by kernel_rfl) rfl #[] rfl (by (try simp only [List.map_toArray, List.map_cons, List.map_nil]); first | done | rfl | (simp only [List.length_drop, List.length_take]; rfl)) ?_; (with_reducible refine (math_NaN.calls  t107 _ A41.out).mono ?_); rintro e w' ⟨rfl, ⟨nd, rfl⟩⟩; refine ⟨_, rfl, ?_⟩))
                                      go_ret2
                                      exact ⟨by first | rfl | (simp; done) | (simp [*]; done), by repeat (first | exact Drawn0.refl _ | apply Drawn0.step)⟩
                          · rw [if_neg c39] at H
                            have c39b0 : ((bt a0 x13_1) == 69) = false := beq_eq_false_iff_ne.mpr c39
                            have c39b1 : ((bt a0 x13_1) != 69) = true := bne_iff_ne.mpr c39
                            replace H := Option.bind_eq_some_iff.mp H
                            obtain ⟨t108, A620, H⟩ := H
                            replace H : (if (bt a0 x13_1) = 95 then (some (t108, false)) else (if x5_1 = 0 then (if (Go.bits .or .u8 (bt a0 x13_1) 32) = 105 then (some (t108, false)) else (if (Go.bits .or .u8 (bt a0 x13_1) 32) = 110 then (some (t108, false)) else (if x5_1 = 1 then (if 0 ≤ (wrap64 (x13_1 - 1)) then (if (wrap64 (x13_1 - 1)) < (a0.size : Int) then (if (bt a0 (wrap64 (x13_1 - 1))) = 48 then (if (Go.bits .or .u8 (bt a0 x13_1) 32) = 120 then (some (t108, false)) else (if (Go.bits .or .u8 (bt a0 x13_1) 32) = 98 then (some (t108, false)) else (some (t108, ((Go.bits .or .u8 (bt a0 x13_1) 32) != 111))))) else (some (t108, true))) else (none)) else (none)) else (some (t108, true))))) else (if x5_1 = 1 then (if 0 ≤ (wrap64 (x13_1 - 1)) then (if (wrap64 (x13_1 - 1)) < (a0.size : Int) then (if (bt a0 (wrap64 (x13_1 - 1))) = 48 then (if (Go.bits .or .u8 (bt a0 x13_1) 32) = 120 then (some (t108, false)) else (if (Go.bits .or .u8 (bt a0 x13_1) 32) = 98 then (some (t108, false)) else (some (t108, ((Go.bits .or .u8 (bt a0 x13_1) 32) != 111))))) else (some (t108, true))) else (none)) else (none)) else (some (t108, true))))) = some (r1, r2) := H
                            have A62 := Aside0.mk A620
                            clear A620
                            by_cases c63 : (bt a0 x13_1) = 95
                            · rw [if_pos c63] at H
                              have c63b0 : ((bt a0 x13_1) == 95) = true := beq_iff_eq.mpr c63
                              have c63b1 : ((bt a0 x13_1) != 95) = false := bne_eq_false_iff_eq.mpr c63
                              clear c63
                              as_aux_lemma =>
                                simp only [Option.some.injEq, Prod.mk.injEq] at H
                                obtain ⟨rfl, rfl⟩ := H
                                go_wp2_with (first | ((with_reducible refine gate_callee (f := 15) rfl ?_); refine goesL_ (some 21) rfl rfl Tryz.func15 (by kernel_rfl) rfl #[] rfl (by (try simp only [List.map_toArray, List.map_cons, List.map_nil]); first | done | rfl | (simp only [List.length_drop, List.length_take]; rfl)) ?_; (with_reducible refine (math_NaN.calls  t108 _ A62.out).mono ?_); rintro e w' ⟨rfl, ⟨nd, rfl⟩⟩; refine ⟨_, rfl, ?_⟩))
                                go_ret2
                                exact ⟨by first | rfl | (simp; done) | (simp [*]; done), by repeat (first | exact Drawn0.refl _ | apply Drawn0.step)⟩
                            · rw [if_neg c63] at H
                              have c63b0 : ((bt a0 x13_1) == 95) = false := beq_eq_false_iff_ne.mpr c63
                              have c63b1 : ((bt a0 x13_1) != 95) = true := bne_iff_ne.mpr c63
                              by_cases c64 : x5_1 = 0
                              · rw [if_pos c64] at H
                                have c64b0 : (x5_1 == 0) = true := beq_iff_eq.mpr c64
                                have c64b1 : (x5_1 != 0) = false := bne_eq_false_iff_eq.mpr c64
                                clear c64
                                by_cases c65 : (Go.bits .or .u8 (bt a0 x13_1) 32) = 105
                                · rw [if_pos c65] at H
                                  have c65b0 : ((Go.bits .or .u8 (bt a0 x13_1) 32) == 105) = true := beq_iff_eq.mpr c65
                                  have c65b1 : ((Go.bits .or .u8 (bt a0 x13_1) 32) != 105) = false := bne_eq_false_iff_eq.mpr c65
                                  clear c65
                                  as_aux_lemma =>
                                    simp only [Option.some.injEq, Prod.mk.injEq] at H
                                    obtain ⟨rfl, rfl⟩ := H
                                    go_wp2_with (first | ((with_reducible refine gate_callee (f := 15) rfl ?_); refine goesL_ (some 21) rfl rfl Tryz.func15 (by kernel_rfl) rfl #[] rfl (by (try simp only [List.map_toArray, List.map_cons, List.map_nil]); first | done | rfl | (simp only [List.length_drop, List.length_take]; rfl)) ?_; (with_reducible refine (math_NaN.calls  t108 _ A62.out).mono ?_); rintro e w' ⟨rfl, ⟨nd, rfl⟩⟩; refine ⟨_, rfl, ?_⟩))
                                    go_ret2
                                    exact ⟨by first | rfl | (simp; done) | (simp [*]; done), by repeat (first | exact Drawn0.refl _ | apply Drawn0.step)⟩
                                · rw [if_neg c65] at H
                                  have c65b0 : ((Go.bits .or .u8 (bt a0 x13_1) 32) == 105) = false := beq_eq_false_iff_ne.mpr c65
                                  have c65b1 : ((Go.bits .or .u8 (bt a0 x13_1) 32) != 105) = true := bne_iff_ne.mpr c65
                                  by_cases c66 : (Go.bits .or .u8 (bt a0 x13_1) 32) = 110
                                  · rw [if_pos c66] at H
                                    have c66b0 : ((Go.bits .or .u8 (bt a0 x13_1) 32) == 110) = true := beq_iff_eq.mpr c66
                                    have c66b1 : ((Go.bits .or .u8 (bt a0 x13_1) 32) != 110) = false := bne_eq_false_iff_eq.mpr c66
                                    clear c66
                                    as_aux_lemma =>
                                      simp only [Option.some.injEq, Prod.mk.injEq] at H
                                      obtain ⟨rfl, rfl⟩ := H
                                      go_wp2_with (first | ((with_reducible refine gate_callee (f := 15) rfl ?_); refine goesL_ (some 21) rfl rfl Tryz.func15 (by kernel_rfl) rfl #[] rfl (by (try simp only [List.map_toArray, List.map_cons, List.map_nil]); first | done | rfl | (simp only [List.length_drop, List.length_take]; rfl)) ?_; (with_reducible refine (math_NaN.calls  t108 _ A62.out).mono ?_); rintro e w' ⟨rfl, ⟨nd, rfl⟩⟩; refine ⟨_, rfl, ?_⟩))
                                      go_ret2
                                      exact ⟨by first | rfl | (simp; done) | (simp [*]; done), by repeat (first | exact Drawn0.refl _ | apply Drawn0.step)⟩
                                  · rw [if_neg c66] at H
                                    have c66b0 : ((Go.bits .or .u8 (bt a0 x13_1) 32) == 110) = false := beq_eq_false_iff_ne.mpr c66
                                    have c66b1 : ((Go.bits .or .u8 (bt a0 x13_1) 32) != 110) = true := bne_iff_ne.mpr c66
                                    by_cases c67 : x5_1 = 1
                                    · rw [if_pos c67] at H
                                      have c67b0 : (x5_1 == 1) = true := beq_iff_eq.mpr c67
                                      have c67b1 : (x5_1 != 1) = false := bne_eq_false_iff_eq.mpr c67
                                      clear c67
                                      obtain ⟨ji68, hji68⟩ : ∃ j_ : Int, (wrap64 (x13_1 - 1)) = j_ := ⟨_, rfl⟩
                                      replace H : (if 0 ≤ (ji68) then (if (ji68) < (a0.size : Int) then (if (bt a0 (ji68)) = 48 then (if (Go.bits .or .u8 (bt a0 x13_1) 32) = 120 then (some (t108, false)) else (if (Go.bits .or .u8 (bt a0 x13_1) 32) = 98 then (some (t108, false)) else (some (t108, ((Go.bits .or .u8 (bt a0 x13_1) 32) != 111))))) else (some (t108, true))) else (none)) else (none)) = some (r1, r2) := by first | (rw [hji68] at H; exact H) | (simp only [hji68] at H ⊢; exact H)
                                      (try rw [hji68] at A62)
                                      have hji68w : (IntKind.i64.wrap (x13_1 - 1)) = ji68 := (i64_w _).trans hji68
                                      by_cases c69 : 0 ≤ (ji68)
                                      · rw [if_pos c69] at H
                                        have c69b0 : decide (0 ≤ (ji68)) = true := decide_eq_true c69
                                        clear c69
                                        by_cases c70 : (ji68) < (a0.size : Int)
                                        · rw [if_pos c70] at H
                                          have c70b0 : decide ((ji68) < (a0.size : Int)) = true := decide_eq_true c70
                                          clear c70
                                          by_cases c72 : (bt a0 (ji68)) = 48
                                          · rw [if_pos c72] at H
                                            have c72b0 : ((bt a0 (ji68)) == 48) = true := beq_iff_eq.mpr c72
                                            have c72b1 : ((bt a0 (ji68)) != 48) = false := bne_eq_false_iff_eq.mpr c72
                                            clear c72
                                            by_cases c73 : (Go.bits .or .u8 (bt a0 x13_1) 32) = 120
                                            · rw [if_pos c73] at H
                                              have c73b0 : ((Go.bits .or .u8 (bt a0 x13_1) 32) == 120) = true := beq_iff_eq.mpr c73
                                              have c73b1 : ((Go.bits .or .u8 (bt a0 x13_1) 32) != 120) = false := bne_eq_false_iff_eq.mpr c73
                                              clear c73
                                              as_aux_lemma =>
                                                simp only [Option.some.injEq, Prod.mk.injEq] at H
                                                obtain ⟨rfl, rfl⟩ := H
                                                go_wp2_with (first | ((with_reducible refine gate_callee (f := 15) rfl ?_); refine goesL_ (some 21) rfl rfl Tryz.func15 (by kernel_rfl) rfl #[] rfl (by (try simp only [List.map_toArray, List.map_cons, List.map_nil]); first | done | rfl | (simp only [List.length_drop, List.length_take]; rfl)) ?_; (with_reducible refine (math_NaN.calls  t108 _ A62.out).mono ?_); rintro e w' ⟨rfl, ⟨nd, rfl⟩⟩; refine ⟨_, rfl, ?_⟩; have p71 : 0 ≤ ((ji68) : Int) := of_decide_eq_true (by first | (with_reducible assumption) | assumption); have q71 : (ji68) < (a0.size : Int) := of_decide_eq_true (by first | (with_reducible assumption) | assumption); have hx71 := bt_at a0 (ji68); replace p71 := eq_true p71; replace q71 := eq_true q71))
                                                go_ret2
                                                exact ⟨by first | rfl | (simp; done) | (simp only [← hji68] <;> (first | rfl | simp)) | (simp [*]; done), by repeat (first | exact Drawn0.refl _ | apply Drawn0.step)⟩
                                            · rw [if_neg c73] at H
                                              have c73b0 : ((Go.bits .or .u8 (bt a0 x13_1) 32) == 120) = false := beq_eq_false_iff_ne.mpr c73
                                              have c73b1 : ((Go.bits .or .u8 (bt a0 x13_1) 32) != 120) = true := bne_iff_ne.mpr c73
                                              by_cases c74 : (Go.bits .or .u8 (bt a0 x13_1) 32) = 98
                                              · rw [if_pos c74] at H
                                                have c74b0 : ((Go.bits .or .u8 (bt a0 x13_1) 32) == 98) = true := beq_iff_eq.mpr c74
                                                have c74b1 : ((Go.bits .or .u8 (bt a0 x13_1) 32) != 98) = false := bne_eq_false_iff_eq.mpr c74
                                                clear c74
                                                as_aux_lemma =>
                                                  simp only [Option.some.injEq, Prod.mk.injEq] at H
                                                  obtain ⟨rfl, rfl⟩ := H
                                                  go_wp2_with (first | ((with_reducible refine gate_callee (f := 15) rfl ?_); refine goesL_ (some 21) rfl rfl Tryz.func15 (by kernel_rfl) rfl #[] rfl (by (try simp only [List.map_toArray, List.map_cons, List.map_nil]); first | done | rfl | (simp only [List.length_drop, List.length_take]; rfl)) ?_; (with_reducible refine (math_NaN.calls  t108 _ A62.out).mono ?_); rintro e w' ⟨rfl, ⟨nd, rfl⟩⟩; refine ⟨_, rfl, ?_⟩; have p71 : 0 ≤ ((ji68) : Int) := of_decide_eq_true (by first | (with_reducible assumption) | assumption); have q71 : (ji68) < (a0.size : Int) := of_decide_eq_true (by first | (with_reducible assumption) | assumption); have hx71 := bt_at a0 (ji68); replace p71 := eq_true p71; replace q71 := eq_true q71))
                                                  go_ret2
                                                  exact ⟨by first | rfl | (simp; done) | (simp only [← hji68] <;> (first | rfl | simp)) | (simp [*]; done), by repeat (first | exact Drawn0.refl _ | apply Drawn0.step)⟩
                                              · rw [if_neg c74] at H
                                                have c74b0 : ((Go.bits .or .u8 (bt a0 x13_1) 32) == 98) = false := beq_eq_false_iff_ne.mpr c74
                                                have c74b1 : ((Go.bits .or .u8 (bt a0 x13_1) 32) != 98) = true := bne_iff_ne.mpr c74
                                                as_aux_lemma =>
                                                  simp only [Option.some.injEq, Prod.mk.injEq] at H
                                                  obtain ⟨rfl, rfl⟩ := H
                                                  go_wp2_with (first | ((with_reducible refine gate_callee (f := 15) rfl ?_); refine goesL_ (some 21) rfl rfl Tryz.func15 (by kernel_rfl) rfl #[] rfl (by (try simp only [List.map_toArray, List.map_cons, List.map_nil]); first | done | rfl | (simp only [List.length_drop, List.length_take]; rfl)) ?_; (with_reducible refine (math_NaN.calls  t108 _ A62.out).mono ?_); rintro e w' ⟨rfl, ⟨nd, rfl⟩⟩; refine ⟨_, rfl, ?_⟩; have p71 : 0 ≤ ((ji68) : Int) := of_decide_eq_true (by first | (with_reducible assumption) | assumption); have q71 : (ji68) < (a0.size : Int) := of_decide_eq_true (by first | (with_reducible assumption) | assumption); have hx71 := bt_at a0 (ji68); replace p71 := eq_true p71; replace q71 := eq_true q71))
                                                  go_ret2
                                                  exact ⟨by first | rfl | (simp; done) | (simp only [← hji68] <;> (first | rfl | simp)) | (simp [*]; done), by repeat (first | exact Drawn0.refl _ | apply Drawn0.step)⟩
                                          · rw [if_neg c72] at H
                                            have c72b0 : ((bt a0 (ji68)) == 48) = false := beq_eq_false_iff_ne.mpr c72
                                            have c72b1 : ((bt a0 (ji68)) != 48) = true := bne_iff_ne.mpr c72
                                            as_aux_lemma =>
                                              simp only [Option.some.injEq, Prod.mk.injEq] at H
                                              obtain ⟨rfl, rfl⟩ := H
                                              go_wp2_with (first | ((with_reducible refine gate_callee (f := 15) rfl ?_); refine goesL_ (some 21) rfl rfl Tryz.func15 (by kernel_rfl) rfl #[] rfl (by (try simp only [List.map_toArray, List.map_cons, List.map_nil]); first | done | rfl | (simp only [List.length_drop, List.length_take]; rfl)) ?_; (with_reducible refine (math_NaN.calls  t108 _ A62.out).mono ?_); rintro e w' ⟨rfl, ⟨nd, rfl⟩⟩; refine ⟨_, rfl, ?_⟩; have p71 : 0 ≤ ((ji68) : Int) := of_decide_eq_true (by first | (with_reducible assumption) | assumption); have q71 : (ji68) < (a0.size : Int) := of_decide_eq_true (by first | (with_reducible assumption) | assumption); have hx71 := bt_at a0 (ji68); replace p71 := eq_true p71; replace q71 := eq_true q71))
                                              go_ret2
                                              exact ⟨by first | rfl | (simp; done) | (simp only [← hji68] <;> (first | rfl | simp)) | (simp [*]; done), by repeat (first | exact Drawn0.refl _ | apply Drawn0.step)⟩
                                        · rw [if_neg c70] at H
                                          exact absurd H (by simp)
                                      · rw [if_neg c69] at H
                                        exact absurd H (by simp)
                                    · rw [if_neg c67] at H
                                      have c67b0 : (x5_1 == 1) = false := beq_eq_false_iff_ne.mpr c67
                                      have c67b1 : (x5_1 != 1) = true := bne_iff_ne.mpr c67
                                      as_aux_lemma =>
                                        simp only [Option.some.injEq, Prod.mk.injEq] at H
                                        obtain ⟨rfl, rfl⟩ := H
                                        go_wp2_with (first | ((with_reducible refine gate_callee (f := 15) rfl ?_); refine goesL_ (some 21) rfl rfl Tryz.func15 (by kernel_rfl) rfl #[] rfl (by (try simp only [List.map_toArray, List.map_cons, List.map_nil]); first | done | rfl | (simp only [List.length_drop, List.length_take]; rfl)) ?_; (with_reducible refine (math_NaN.calls  t108 _ A62.out).mono ?_); rintro e w' ⟨rfl, ⟨nd, rfl⟩⟩; refine ⟨_, rfl, ?_⟩))
                                        go_ret2
                                        exact ⟨by first | rfl | (simp; done) | (simp [*]; done), by repeat (first | exact Drawn0.refl _ | apply Drawn0.step)⟩
                              · rw [if_neg c64] at H
                                have c64b0 : (x5_1 == 0) = false := beq_eq_false_iff_ne.mpr c64
                                have c64b1 : (x5_1 != 0) = true := bne_iff_ne.mpr c64
                                by_cases c75 : x5_1 = 1
                                · rw [if_pos c75] at H
                                  have c75b0 : (x5_1 == 1) = true := beq_iff_eq.mpr c75
                                  have c75b1 : (x5_1 != 1) = false := bne_eq_false_iff_eq.mpr c75
                                  clear c75
                                  obtain ⟨ji76, hji76⟩ : ∃ j_ : Int, (wrap64 (x13_1 - 1)) = j_ := ⟨_, rfl⟩
                                  replace H : (if 0 ≤ (ji76) then (if (ji76) < (a0.size : Int) then (if (bt a0 (ji76)) = 48 then (if (Go.bits .or .u8 (bt a0 x13_1) 32) = 120 then (some (t108, false)) else (if (Go.bits .or .u8 (bt a0 x13_1) 32) = 98 then (some (t108, false)) else (some (t108, ((Go.bits .or .u8 (bt a0 x13_1) 32) != 111))))) else (some (t108, true))) else (none)) else (none)) = some (r1, r2) := by first | (rw [hji76] at H; exact H) | (simp only [hji76] at H ⊢; exact H)
                                  (try rw [hji76] at A62)
                                  have hji76w : (IntKind.i64.wrap (x13_1 - 1)) = ji76 := (i64_w _).trans hji76
                                  by_cases c77 : 0 ≤ (ji76)
                                  · rw [if_pos c77] at H
                                    have c77b0 : decide (0 ≤ (ji76)) = true := decide_eq_true c77
                                    clear c77
                                    by_cases c78 : (ji76) < (a0.size : Int)
                                    · rw [if_pos c78] at H
                                      have c78b0 : decide ((ji76) < (a0.size : Int)) = true := decide_eq_true c78
                                      clear c78
                                      by_cases c80 : (bt a0 (ji76)) = 48
                                      · rw [if_pos c80] at H
                                        have c80b0 : ((bt a0 (ji76)) == 48) = true := beq_iff_eq.mpr c80
                                        have c80b1 : ((bt a0 (ji76)) != 48) = false := bne_eq_false_iff_eq.mpr c80
                                        clear c80
                                        by_cases c81 : (Go.bits .or .u8 (bt a0 x13_1) 32) = 120
                                        · rw [if_pos c81] at H
                                          have c81b0 : ((Go.bits .or .u8 (bt a0 x13_1) 32) == 120) = true := beq_iff_eq.mpr c81
                                          have c81b1 : ((Go.bits .or .u8 (bt a0 x13_1) 32) != 120) = false := bne_eq_false_iff_eq.mpr c81
                                          clear c81
                                          as_aux_lemma =>
                                            simp only [Option.some.injEq, Prod.mk.injEq] at H
                                            obtain ⟨rfl, rfl⟩ := H
                                            go_wp2_with (first | ((with_reducible refine gate_callee (f := 15) rfl ?_); refine goesL_ (some 21) rfl rfl Tryz.func15 (by kernel_rfl) rfl #[] rfl (by (try simp only [List.map_toArray, List.map_cons, List.map_nil]); first | done | rfl | (simp only [List.length_drop, List.length_take]; rfl)) ?_; (with_reducible refine (math_NaN.calls  t108 _ A62.out).mono ?_); rintro e w' ⟨rfl, ⟨nd, rfl⟩⟩; refine ⟨_, rfl, ?_⟩; have p79 : 0 ≤ ((ji76) : Int) := of_decide_eq_true (by first | (with_reducible assumption) | assumption); have q79 : (ji76) < (a0.size : Int) := of_decide_eq_true (by first | (with_reducible assumption) | assumption); have hx79 := bt_at a0 (ji76); replace p79 := eq_true p79; replace q79 := eq_true q79))
                                            go_ret2
                                            exact ⟨by first | rfl | (simp; done) | (simp only [← hji76] <;> (first | rfl | simp)) | (simp [*]; done), by repeat (first | exact Drawn0.refl _ | apply Drawn0.step)⟩
                                        · rw [if_neg c81] at H
                                          have c81b0 : ((Go.bits .or .u8 (bt a0 x13_1) 32) == 120) = false := beq_eq_false_iff_ne.mpr c81
                                          have c81b1 : ((Go.bits .or .u8 (bt a0 x13_1) 32) != 120) = true := bne_iff_ne.mpr c81
                                          by_cases c82 : (Go.bits .or .u8 (bt a0 x13_1) 32) = 98
                                          · rw [if_pos c82] at H
                                            have c82b0 : ((Go.bits .or .u8 (bt a0 x13_1) 32) == 98) = true := beq_iff_eq.mpr c82
                                            have c82b1 : ((Go.bits .or .u8 (bt a0 x13_1) 32) != 98) = false := bne_eq_false_iff_eq.mpr c82
                                            clear c82
                                            as_aux_lemma =>
                                              simp only [Option.some.injEq, Prod.mk.injEq] at H
                                              obtain ⟨rfl, rfl⟩ := H
                                              go_wp2_with (first | ((with_reducible refine gate_callee (f := 15) rfl ?_); refine goesL_ (some 21) rfl rfl Tryz.func15 (by kernel_rfl) rfl #[] rfl (by (try simp only [List.map_toArray, List.map_cons, List.map_nil]); first | done | rfl | (simp only [List.length_drop, List.length_take]; rfl)) ?_; (with_reducible refine (math_NaN.calls  t108 _ A62.out).mono ?_); rintro e w' ⟨rfl, ⟨nd, rfl⟩⟩; refine ⟨_, rfl, ?_⟩; have p79 : 0 ≤ ((ji76) : Int) := of_decide_eq_true (by first | (with_reducible assumption) | assumption); have q79 : (ji76) < (a0.size : Int) := of_decide_eq_true (by first | (with_reducible assumption) | assumption); have hx79 := bt_at a0 (ji76); replace p79 := eq_true p79; replace q79 := eq_true q79))
                                              go_ret2
                                              exact ⟨by first | rfl | (simp; done) | (simp only [← hji76] <;> (first | rfl | simp)) | (simp [*]; done), by repeat (first | exact Drawn0.refl _ | apply Drawn0.step)⟩
                                          · rw [if_neg c82] at H
                                            have c82b0 : ((Go.bits .or .u8 (bt a0 x13_1) 32) == 98) = false := beq_eq_false_iff_ne.mpr c82
                                            have c82b1 : ((Go.bits .or .u8 (bt a0 x13_1) 32) != 98) = true := bne_iff_ne.mpr c82
                                            as_aux_lemma =>
                                              simp only [Option.some.injEq, Prod.mk.injEq] at H
                                              obtain ⟨rfl, rfl⟩ := H
                                              go_wp2_with (first | ((with_reducible refine gate_callee (f := 15) rfl ?_); refine goesL_ (some 21) rfl rfl Tryz.func15 (by kernel_rfl) rfl #[] rfl (by (try simp only [List.map_toArray, List.map_cons, List.map_nil]); first | done | rfl | (simp only [List.length_drop, List.length_take]; rfl)) ?_; (with_reducible refine (math_NaN.calls  t108 _ A62.out).mono ?_); rintro e w' ⟨rfl, ⟨nd, rfl⟩⟩; refine ⟨_, rfl, ?_⟩; have p79 : 0 ≤ ((ji76) : Int) := of_decide_eq_true (by first | (with_reducible assumption) | assumption); have q79 : (ji76) < (a0.size : Int) := of_decide_eq_true (by first | (with_reducible assumption) | assumption); have hx79 := bt_at a0 (ji76); replace p79 := eq_true p79; replace q79 := eq_true q79))
                                              go_ret2
                                              exact ⟨by first | rfl | (simp; done) | (simp only [← hji76] <;> (first | rfl | simp)) | (simp [*]; done), by repeat (first | exact Drawn0.refl _ | apply Drawn0.step)⟩
                                      · rw [if_neg c80] at H
                                        have c80b0 : ((bt a0 (ji76)) == 48) = false := beq_eq_false_iff_ne.mpr c80
                                        have c80b1 : ((bt a0 (ji76)) != 48) = true := bne_iff_ne.mpr c80
                                        as_aux_lemma =>
                                          simp only [Option.some.injEq, Prod.mk.injEq] at H
                                          obtain ⟨rfl, rfl⟩ := H
                                          go_wp2_with (first | ((with_reducible refine gate_callee (f := 15) rfl ?_); refine goesL_ (some 21) rfl rfl Tryz.func15 (by kernel_rfl) rfl #[] rfl (by (try simp only [List.map_toArray, List.map_cons, List.map_nil]); first | done | rfl | (simp only [List.length_drop, List.length_take]; rfl)) ?_; (with_reducible refine (math_NaN.calls  t108 _ A62.out).mono ?_); rintro e w' ⟨rfl, ⟨nd, rfl⟩⟩; refine ⟨_, rfl, ?_⟩; have p79 : 0 ≤ ((ji76) : Int) := of_decide_eq_true (by first | (with_reducible assumption) | assumption); have q79 : (ji76) < (a0.size : Int) := of_decide_eq_true (by first | (with_reducible assumption) | assumption); have hx79 := bt_at a0 (ji76); replace p79 := eq_true p79; replace q79 := eq_true q79))
                                          go_ret2
                                          exact ⟨by first | rfl | (simp; done) | (simp only [← hji76] <;> (first | rfl | simp)) | (simp [*]; done), by repeat (first | exact Drawn0.refl _ | apply Drawn0.step)⟩
                                    · rw [if_neg c78] at H
                                      exact absurd H (by simp)
                                  · rw [if_neg c77] at H
                                    exact absurd H (by simp)
                                · rw [if_neg c75] at H
                                  have c75b0 : (x5_1 == 1) = false := beq_eq_false_iff_ne.mpr c75
                                  have c75b1 : (x5_1 != 1) = true := bne_iff_ne.mpr c75
                                  as_aux_lemma =>
                                    simp only [Option.some.injEq, Prod.mk.injEq] at H
                                    obtain ⟨rfl, rfl⟩ := H
                                    go_wp2_with (first | ((with_reducible refine gate_callee (f := 15) rfl ?_); refine goesL_ (some 21) rfl rfl Tryz.func15 (by kernel_rfl) rfl #[] rfl (by (try simp only [List.map_toArray, List.map_cons, List.map_nil]); first | done | rfl | (simp only [List.length_drop, List.length_take]; rfl)) ?_; (with_reducible refine (math_NaN.calls  t108 _ A62.out).mono ?_); rintro e w' ⟨rfl, ⟨nd, rfl⟩⟩; refine ⟨_, rfl, ?_⟩))
                                    go_ret2
                                    exact ⟨by first | rfl | (simp; done) | (simp [*]; done), by repeat (first | exact Drawn0.refl _ | apply Drawn0.step)⟩
          · rw [if_neg c4] at H
            exact absurd H (by simp)
        · rw [if_neg c3] at H
          exact absurd H (by simp)
      · rw [if_neg c2] at H
        have c2b0 : decide (x13_1 < (a0.size : Int)) = false := decide_eq_false c2
        clear c2
        by_cases c83 : x5_1 = 0
        · rw [if_pos c83] at H
          have c83b0 : (x5_1 == 0) = true := beq_iff_eq.mpr c83
          have c83b1 : (x5_1 != 0) = false := bne_eq_false_iff_eq.mpr c83
          clear c83
          replace H := Option.bind_eq_some_iff.mp H
          obtain ⟨t103, A840, H⟩ := H
          replace H : (some (t103, true)) = some (r1, r2) := H
          have A84 := Aside0.mk A840
          clear A840
          as_aux_lemma =>
            simp only [Option.some.injEq, Prod.mk.injEq] at H
            obtain ⟨rfl, rfl⟩ := H
            go_wp2_with (first | ((with_reducible refine gate_callee (f := 15) rfl ?_); refine goesL_ (some 100) rfl rfl Tryz.func15 (by kernel_rfl) rfl #[] rfl (by (try simp only [List.map_toArray, List.map_cons, List.map_nil]); first | done | rfl | (simp only [List.length_drop, List.length_take]; rfl)) ?_; (with_reducible refine (math_NaN.calls  t103 _ A84.out).mono ?_); rintro e w' ⟨rfl, ⟨nd, rfl⟩⟩; refine ⟨_, rfl, ?_⟩))
            go_ret2
            exact ⟨by first | rfl | (simp; done) | (simp [*]; done), by repeat (first | exact Drawn0.refl _ | apply Drawn0.step)⟩
        · rw [if_neg c83] at H
          have c83b0 : (x5_1 == 0) = false := beq_eq_false_iff_ne.mpr c83
          have c83b1 : (x5_1 != 0) = true := bne_iff_ne.mpr c83
          replace H := Option.bind_eq_some_iff.mp H
          obtain ⟨t104, A850, H⟩ := H
          replace H : (some (t104, true)) = some (r1, r2) := H
          have A85 := Aside0.mk A850
          clear A850
          as_aux_lemma =>
            simp only [Option.some.injEq, Prod.mk.injEq] at H
            obtain ⟨rfl, rfl⟩ := H
            have hfl86 := fun W_ => run_float_arith (P := Tryz.prog) W_ .quo 23 .f64 (floatOfInt .f64 x4_1) x6_1 t104 A85.out
            go_wp2
            go_ret2
            exact ⟨by first | rfl | (simp; done) | (simp [*]; done), by repeat (first | exact Drawn0.refl _ | apply Drawn0.step)⟩

end Go.Proofs.YtllaepgbpmiglaaGreatDoor.QNum
