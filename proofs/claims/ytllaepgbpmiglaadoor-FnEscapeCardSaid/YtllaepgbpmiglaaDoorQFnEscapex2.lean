-- Written by a program of this session out of the translation (a copy of the kit's print, turned). Not trusted: Lean checks it.
import Derived.Test.YtllaepgbpmiglaaDoorQFnEscapex0
import Derived.Test.YtllaepgbpmiglaaDoorQFnEscapex1
namespace Go.Proofs.YtllaepgbpmiglaaDoor.QFnEscape
open Go.RowKit Go.Proofs.YtllaepgbpmiglaaDoorW.PrintWords Go.Proofs.YtllaepgbpmiglaaDoorW.PrintLast Go.Proofs.YtllaepgbpmiglaaDoorW.PrintMore
attribute [local go_sem] max2_int min2_int max_two min_two max_three min_three max_four min_four   -- for this text's walks alone
set_option linter.unusedVariables false
set_option linter.unusedSimpArgs false

/-! ### spec_Unescape: function 6 -/
mutual
def spec_Unescape.l0 : Nat → ByteArray → ByteArray → Int → Option (ByteArray × Bool)
  | 0, _, _, _ => none
  | k + 1, x0, x4, x5 => if x5 < (x0.size : Int) then (if 0 ≤ x5 then (if (bt x0 x5) = 37 then (if (wrap64 (x5 + 5)) < (x0.size : Int) then (if 0 ≤ (wrap64 (x5 + 1)) then (if (wrap64 (x5 + 1)) < (x0.size : Int) then (spec_Unescape.j1 k x0 x4 x5 0 0 ((bt x0 (wrap64 (x5 + 1))) == 117)) else (none)) else (none)) else (spec_Unescape.j1 k x0 x4 x5 0 0 false)) else (spec_Unescape.j1 k x0 x4 x5 0 0 false)) else (none)) else (some (x4, true))
def spec_Unescape.j1 : Nat → ByteArray → ByteArray → Int → Int → Int → Bool → Option (ByteArray × Bool)
  | 0, _, _, _, _, _, _ => none
  | k + 1, x0, x4, x5, x6, x7, x31 => if x31 = true then (if 0 ≤ (wrap64 (x5 + 2)) then (if (wrap64 (x5 + 2)) ≤ (wrap64 (x5 + 6)) then (if (wrap64 (x5 + 6)) ≤ (x0.size : Int) then ((spec_hexes.f k (x0.extract ((wrap64 (x5 + 2)) : Int).toNat ((wrap64 (x5 + 6)) : Int).toNat)).bind fun t104 => (spec_Unescape.j2 k x0 x4 x5 t104 5)) else (none)) else (none)) else (none)) else (if 0 ≤ x5 then (if x5 < (x0.size : Int) then (if (bt x0 x5) = 37 then (if (wrap64 (x5 + 2)) < (x0.size : Int) then (if 0 ≤ (wrap64 (x5 + 1)) then (if (wrap64 (x5 + 1)) ≤ (wrap64 (x5 + 3)) then (if (wrap64 (x5 + 3)) ≤ (x0.size : Int) then ((spec_hexes.f k (x0.extract ((wrap64 (x5 + 1)) : Int).toNat ((wrap64 (x5 + 3)) : Int).toNat)).bind fun t105 => (spec_Unescape.j2 k x0 x4 x5 t105 2)) else (none)) else (none)) else (none)) else (spec_Unescape.j2 k x0 x4 x5 x6 x7)) else (spec_Unescape.j2 k x0 x4 x5 x6 x7)) else (none)) else (none))
def spec_Unescape.j2 : Nat → ByteArray → ByteArray → Int → Int → Int → Option (ByteArray × Bool)
  | 0, _, _, _, _, _ => none
  | k + 1, x0, x4, x5, x6, x7 => if x7 = 5 then (spec_Unescape.j3 k x0 x4 x5 x6 x7 (decide (x6 < 0))) else (spec_Unescape.j3 k x0 x4 x5 x6 x7 false)
def spec_Unescape.j3 : Nat → ByteArray → ByteArray → Int → Int → Int → Bool → Option (ByteArray × Bool)
  | 0, _, _, _, _, _, _ => none
  | k + 1, x0, x4, x5, x6, x7, x62 => if x62 = true then (spec_Unescape.j4 k x0 x4 x5 (-1) 0) else (spec_Unescape.j4 k x0 x4 x5 x6 x7)
def spec_Unescape.j4 : Nat → ByteArray → ByteArray → Int → Int → Int → Option (ByteArray × Bool)
  | 0, _, _, _, _, _ => none
  | k + 1, x0, x4, x5, x6, x7 => if x7 = 0 then (spec_Unescape.j5 k x0 x4 x5 x6 x7 true) else (spec_Unescape.j5 k x0 x4 x5 x6 x7 (decide (x6 < 0)))
def spec_Unescape.j5 : Nat → ByteArray → ByteArray → Int → Int → Int → Bool → Option (ByteArray × Bool)
  | 0, _, _, _, _, _, _ => none
  | k + 1, x0, x4, x5, x6, x7, x68 => if x68 = true then (if 0 ≤ x5 then (if x5 ≤ (wrap64 (x5 + 1)) then (if (wrap64 (x5 + 1)) ≤ (x0.size : Int) then (if x4.size + (x0.extract (x5 : Int).toNat ((wrap64 (x5 + 1)) : Int).toNat).size ≤ 9223372036854775807 then (spec_Unescape.l0 k x0 (x4 ++ (x0.extract (x5 : Int).toNat ((wrap64 (x5 + 1)) : Int).toNat)) (wrap64 (x5 + 1))) else (none)) else (none)) else (none)) else (none)) else (if x6 ≥ 128 then (some ((⟨#[]⟩ : ByteArray), false)) else ((some (([(x6) % 256] : List Int) : List Int)).bind fun y106 => (if x4.size + (strOfNums y106).size ≤ 9223372036854775807 then (spec_Unescape.l0 k x0 (x4 ++ (strOfNums y106)) (wrap64 ((wrap64 (x5 + x7)) + 1))) else (none))))
end
def spec_Unescape.f (k : Nat) (a0 : ByteArray) : Option (ByteArray × Bool) := spec_Unescape.l0 k a0 (⟨#[]⟩ : ByteArray) 0
theorem spec_Unescape.mono_l : ∀ k, (∀ y0 y1 y2, LeO (spec_Unescape.l0 k y0 y1 y2) (spec_Unescape.l0 (k + 1) y0 y1 y2)) ∧ (∀ y0 y1 y2 y3 y4 y5, LeO (spec_Unescape.j1 k y0 y1 y2 y3 y4 y5) (spec_Unescape.j1 (k + 1) y0 y1 y2 y3 y4 y5)) ∧ (∀ y0 y1 y2 y3 y4, LeO (spec_Unescape.j2 k y0 y1 y2 y3 y4) (spec_Unescape.j2 (k + 1) y0 y1 y2 y3 y4)) ∧ (∀ y0 y1 y2 y3 y4 y5, LeO (spec_Unescape.j3 k y0 y1 y2 y3 y4 y5) (spec_Unescape.j3 (k + 1) y0 y1 y2 y3 y4 y5)) ∧ (∀ y0 y1 y2 y3 y4, LeO (spec_Unescape.j4 k y0 y1 y2 y3 y4) (spec_Unescape.j4 (k + 1) y0 y1 y2 y3 y4)) ∧ (∀ y0 y1 y2 y3 y4 y5, LeO (spec_Unescape.j5 k y0 y1 y2 y3 y4 y5) (spec_Unescape.j5 (k + 1) y0 y1 y2 y3 y4 y5))
  | 0 => ⟨fun _ _ _ r h => by simp [spec_Unescape.l0] at h, fun _ _ _ _ _ _ r h => by simp [spec_Unescape.j1] at h, fun _ _ _ _ _ r h => by simp [spec_Unescape.j2] at h, fun _ _ _ _ _ _ r h => by simp [spec_Unescape.j3] at h, fun _ _ _ _ _ r h => by simp [spec_Unescape.j4] at h, fun _ _ _ _ _ _ r h => by simp [spec_Unescape.j5] at h⟩
  | k + 1 => by
    obtain ⟨ih0, ih1, ih2, ih3, ih4, ih5⟩ := spec_Unescape.mono_l k
    refine ⟨?_, ?_, ?_, ?_, ?_, ?_⟩
    · intro y0 y1 y2
      unfold spec_Unescape.l0
      repeat' first
      | (with_reducible exact ih0 _ _ _)
      | (with_reducible exact ih1 _ _ _ _ _ _)
      | (with_reducible exact ih2 _ _ _ _ _)
      | (with_reducible exact ih3 _ _ _ _ _ _)
      | (with_reducible exact ih4 _ _ _ _ _)
      | (with_reducible exact ih5 _ _ _ _ _ _)
      | (with_reducible exact spec_hexes.mono _ _)
      | (with_reducible exact LeO.refl _)
      | (with_reducible exact LeO.none _)
      | (with_reducible refine LeO.ite ?_ ?_)
      | (with_reducible refine LeO.bind ?_ (fun _ => ?_))
      | exact ih0 _ _ _
      | exact ih1 _ _ _ _ _ _
      | exact ih2 _ _ _ _ _
      | exact ih3 _ _ _ _ _ _
      | exact ih4 _ _ _ _ _
      | exact ih5 _ _ _ _ _ _
      | exact spec_hexes.mono _ _
      | exact LeO.none _
      | refine LeO.ite ?_ ?_
      | refine LeO.bind ?_ (fun _ => ?_)
    · intro y0 y1 y2 y3 y4 y5
      unfold spec_Unescape.j1
      repeat' first
      | (with_reducible exact ih0 _ _ _)
      | (with_reducible exact ih1 _ _ _ _ _ _)
      | (with_reducible exact ih2 _ _ _ _ _)
      | (with_reducible exact ih3 _ _ _ _ _ _)
      | (with_reducible exact ih4 _ _ _ _ _)
      | (with_reducible exact ih5 _ _ _ _ _ _)
      | (with_reducible exact spec_hexes.mono _ _)
      | (with_reducible exact LeO.refl _)
      | (with_reducible exact LeO.none _)
      | (with_reducible refine LeO.ite ?_ ?_)
      | (with_reducible refine LeO.bind ?_ (fun _ => ?_))
      | exact ih0 _ _ _
      | exact ih1 _ _ _ _ _ _
      | exact ih2 _ _ _ _ _
      | exact ih3 _ _ _ _ _ _
      | exact ih4 _ _ _ _ _
      | exact ih5 _ _ _ _ _ _
      | exact spec_hexes.mono _ _
      | exact LeO.none _
      | refine LeO.ite ?_ ?_
      | refine LeO.bind ?_ (fun _ => ?_)
    · intro y0 y1 y2 y3 y4
      unfold spec_Unescape.j2
      repeat' first
      | (with_reducible exact ih0 _ _ _)
      | (with_reducible exact ih1 _ _ _ _ _ _)
      | (with_reducible exact ih2 _ _ _ _ _)
      | (with_reducible exact ih3 _ _ _ _ _ _)
      | (with_reducible exact ih4 _ _ _ _ _)
      | (with_reducible exact ih5 _ _ _ _ _ _)
      | (with_reducible exact spec_hexes.mono _ _)
      | (with_reducible exact LeO.refl _)
      | (with_reducible exact LeO.none _)
      | (with_reducible refine LeO.ite ?_ ?_)
      | (with_reducible refine LeO.bind ?_ (fun _ => ?_))
      | exact ih0 _ _ _
      | exact ih1 _ _ _ _ _ _
      | exact ih2 _ _ _ _ _
      | exact ih3 _ _ _ _ _ _
      | exact ih4 _ _ _ _ _
      | exact ih5 _ _ _ _ _ _
      | exact spec_hexes.mono _ _
      | exact LeO.none _
      | refine LeO.ite ?_ ?_
      | refine LeO.bind ?_ (fun _ => ?_)
    · intro y0 y1 y2 y3 y4 y5
      unfold spec_Unescape.j3
      repeat' first
      | (with_reducible exact ih0 _ _ _)
      | (with_reducible exact ih1 _ _ _ _ _ _)
      | (with_reducible exact ih2 _ _ _ _ _)
      | (with_reducible exact ih3 _ _ _ _ _ _)
      | (with_reducible exact ih4 _ _ _ _ _)
      | (with_reducible exact ih5 _ _ _ _ _ _)
      | (with_reducible exact spec_hexes.mono _ _)
      | (with_reducible exact LeO.refl _)
      | (with_reducible exact LeO.none _)
      | (with_reducible refine LeO.ite ?_ ?_)
      | (with_reducible refine LeO.bind ?_ (fun _ => ?_))
      | exact ih0 _ _ _
      | exact ih1 _ _ _ _ _ _
      | exact ih2 _ _ _ _ _
      | exact ih3 _ _ _ _ _ _
      | exact ih4 _ _ _ _ _
      | exact ih5 _ _ _ _ _ _
      | exact spec_hexes.mono _ _
      | exact LeO.none _
      | refine LeO.ite ?_ ?_
      | refine LeO.bind ?_ (fun _ => ?_)
    · intro y0 y1 y2 y3 y4
      unfold spec_Unescape.j4
      repeat' first
      | (with_reducible exact ih0 _ _ _)
      | (with_reducible exact ih1 _ _ _ _ _ _)
      | (with_reducible exact ih2 _ _ _ _ _)
      | (with_reducible exact ih3 _ _ _ _ _ _)
      | (with_reducible exact ih4 _ _ _ _ _)
      | (with_reducible exact ih5 _ _ _ _ _ _)
      | (with_reducible exact spec_hexes.mono _ _)
      | (with_reducible exact LeO.refl _)
      | (with_reducible exact LeO.none _)
      | (with_reducible refine LeO.ite ?_ ?_)
      | (with_reducible refine LeO.bind ?_ (fun _ => ?_))
      | exact ih0 _ _ _
      | exact ih1 _ _ _ _ _ _
      | exact ih2 _ _ _ _ _
      | exact ih3 _ _ _ _ _ _
      | exact ih4 _ _ _ _ _
      | exact ih5 _ _ _ _ _ _
      | exact spec_hexes.mono _ _
      | exact LeO.none _
      | refine LeO.ite ?_ ?_
      | refine LeO.bind ?_ (fun _ => ?_)
    · intro y0 y1 y2 y3 y4 y5
      unfold spec_Unescape.j5
      repeat' first
      | (with_reducible exact ih0 _ _ _)
      | (with_reducible exact ih1 _ _ _ _ _ _)
      | (with_reducible exact ih2 _ _ _ _ _)
      | (with_reducible exact ih3 _ _ _ _ _ _)
      | (with_reducible exact ih4 _ _ _ _ _)
      | (with_reducible exact ih5 _ _ _ _ _ _)
      | (with_reducible exact spec_hexes.mono _ _)
      | (with_reducible exact LeO.refl _)
      | (with_reducible exact LeO.none _)
      | (with_reducible refine LeO.ite ?_ ?_)
      | (with_reducible refine LeO.bind ?_ (fun _ => ?_))
      | exact ih0 _ _ _
      | exact ih1 _ _ _ _ _ _
      | exact ih2 _ _ _ _ _
      | exact ih3 _ _ _ _ _ _
      | exact ih4 _ _ _ _ _
      | exact ih5 _ _ _ _ _ _
      | exact spec_hexes.mono _ _
      | exact LeO.none _
      | refine LeO.ite ?_ ?_
      | refine LeO.bind ?_ (fun _ => ?_)
theorem spec_Unescape.mono : ∀ a0 k, LeO (spec_Unescape.f k a0) (spec_Unescape.f (k + 1) a0) := by
  intro a0 k
  obtain ⟨ih0, ih1, ih2, ih3, ih4, ih5⟩ := spec_Unescape.mono_l k
  unfold spec_Unescape.f
  repeat' first
      | (with_reducible exact ih0 _ _ _)
      | (with_reducible exact ih1 _ _ _ _ _ _)
      | (with_reducible exact ih2 _ _ _ _ _)
      | (with_reducible exact ih3 _ _ _ _ _ _)
      | (with_reducible exact ih4 _ _ _ _ _)
      | (with_reducible exact ih5 _ _ _ _ _ _)
      | (with_reducible exact spec_hexes.mono _ _)
      | (with_reducible exact LeO.refl _)
      | (with_reducible exact LeO.none _)
      | (with_reducible refine LeO.ite ?_ ?_)
      | (with_reducible refine LeO.bind ?_ (fun _ => ?_))
      | exact ih0 _ _ _
      | exact ih1 _ _ _ _ _ _
      | exact ih2 _ _ _ _ _
      | exact ih3 _ _ _ _ _ _
      | exact ih4 _ _ _ _ _
      | exact ih5 _ _ _ _ _ _
      | exact spec_hexes.mono _ _
      | exact LeO.none _
      | refine LeO.ite ?_ ?_
      | refine LeO.bind ?_ (fun _ => ?_)
set_option maxHeartbeats 8000000 in
set_option maxRecDepth 100000 in
theorem spec_Unescape.calls (k : Nat) (a0 : ByteArray) (r1 : ByteArray) (r2 : Bool) (w : World) (h : spec_Unescape.f k a0 = some (r1, r2)) :
    Calls Tryd.prog 6 #[.string a0] w fun e w' => e = .returned (.tuple #[.string r1, .bool r2]) ∧ Below w.heap.size w w' := by
  have HB := Aside0.mk (Below.refl w.heap.size w)
  have H : (spec_Unescape.l0 k a0 (⟨#[]⟩ : ByteArray) 0) = some (r1, r2) := h
  clear h
  have H' := Aside0.mk H
  clear H
  go_enter Tryd.func6, Tryd.ntmps6
  go_wp2
  go_loopg [4, 5] k (fun kq v4 v5 w' => ∃ (x4_1 : ByteArray) (x5_1 : Int), v4 = .string x4_1 ∧ v5 = .int .i64 x5_1 ∧ Aside0 (spec_Unescape.l0 kq a0 x4_1 x5_1 = some (r1, r2)) ∧ Aside0 (kq ≤ k) ∧ Aside0 (Below w.heap.size w w'))
  case atStart => exact ⟨((⟨#[]⟩ : ByteArray)), (0), (by first | rfl | (simp; done) | (simp [*]; done)), (by first | rfl | (simp; done) | (simp [*]; done)), H', ⟨Nat.le_refl _⟩, ⟨by repeat (first | (with_reducible first | exact HB.out | apply below_alloc | apply pw_below_drewN | apply below_drew1) | exact HB.out)⟩⟩
  case round =>
    clear H'
    obtain ⟨x4_1, x5_1, rfl, rfl, HA, HK1, HB⟩ := hrel
    cases gk with
    | zero => exact absurd HA.out (by simp [spec_Unescape.l0])
    | succ k1 =>
      have H := HA.out
      clear HA
      simp only [spec_Unescape.l0] at H
      by_cases c2 : x5_1 < (a0.size : Int)
      · rw [if_pos c2] at H
        have c2b0 : decide (x5_1 < (a0.size : Int)) = true := decide_eq_true c2
        clear c2
        have HC3 := Aside0.mk H
        clear H
        go_upto_region 6 with (fail)
        go_cut [31] (fun v31 wc => ∃ (kq : Nat) (x31_2 : Bool), v31 = .bool x31_2 ∧ Aside0 (spec_Unescape.j1 kq a0 x4_1 x5_1 0 0 x31_2 = some (r1, r2)) ∧ Aside0 (kq ≤ k1) ∧ Aside0 (Below w.heap.size w wc))
        case first =>
          have H := HC3.out
          clear HC3
          by_cases c4 : 0 ≤ x5_1
          · rw [if_pos c4] at H
            have c4b0 : decide (0 ≤ x5_1) = true := decide_eq_true c4
            clear c4
            (first | rw [c4b0] | (simp only [i64_w, i32_w]; rw [c4b0]) | skip)
            by_cases c6 : (bt a0 x5_1) = 37
            · rw [if_pos c6] at H
              have c6b0 : ((bt a0 x5_1) == 37) = true := beq_iff_eq.mpr c6
              have c6b1 : ((bt a0 x5_1) != 37) = false := bne_eq_false_iff_eq.mpr c6
              clear c6
              by_cases c7 : (wrap64 (x5_1 + 5)) < (a0.size : Int)
              · rw [if_pos c7] at H
                have c7b0 : decide ((wrap64 (x5_1 + 5)) < (a0.size : Int)) = true := decide_eq_true c7
                clear c7
                obtain ⟨ji8, hji8⟩ : ∃ j_ : Int, (wrap64 (x5_1 + 1)) = j_ := ⟨_, rfl⟩
                replace H : (if 0 ≤ (ji8) then (if (ji8) < (a0.size : Int) then (spec_Unescape.j1 k1 a0 x4_1 x5_1 0 0 ((bt a0 (ji8)) == 117)) else (none)) else (none)) = some (r1, r2) := by first | (rw [hji8] at H; exact H) | (simp only [hji8] at H ⊢; exact H)
                have hji8w : (IntKind.i64.wrap (x5_1 + 1)) = ji8 := (i64_w _).trans hji8
                by_cases c9 : 0 ≤ (ji8)
                · rw [if_pos c9] at H
                  have c9b0 : decide (0 ≤ (ji8)) = true := decide_eq_true c9
                  clear c9
                  by_cases c10 : (ji8) < (a0.size : Int)
                  · rw [if_pos c10] at H
                    have c10b0 : decide ((ji8) < (a0.size : Int)) = true := decide_eq_true c10
                    clear c10
                    have H' := Aside0.mk H
                    clear H
                    have p5 : 0 ≤ (x5_1 : Int) := of_decide_eq_true (by first | (with_reducible assumption) | assumption)
                    have q5 : x5_1 < (a0.size : Int) := of_decide_eq_true (by first | (with_reducible assumption) | assumption)
                    have hx5 := bt_at a0 x5_1
                    replace p5 := eq_true p5
                    replace q5 := eq_true q5
                    have p11 : 0 ≤ ((ji8) : Int) := of_decide_eq_true (by first | (with_reducible assumption) | assumption)
                    have q11 : (ji8) < (a0.size : Int) := of_decide_eq_true (by first | (with_reducible assumption) | assumption)
                    have hx11 := bt_at a0 (ji8)
                    replace p11 := eq_true p11
                    replace q11 := eq_true q11
                    go_wp2
                    go_meet
                    case rel => exact ⟨_, (((bt a0 (ji8)) == 117)), (by first | rfl | (simp; done) | (simp only [← hji8] <;> (first | rfl | simp)) | (simp [*]; done)), H', ⟨by have := HK1.out; first | omega | exact Nat.le_refl _⟩, ⟨by repeat (first | (with_reducible first | exact HB.out | apply below_alloc | apply pw_below_drewN | apply below_drew1) | exact HB.out)⟩⟩
                  · rw [if_neg c10] at H
                    exact absurd H (by simp)
                · rw [if_neg c9] at H
                  exact absurd H (by simp)
              · rw [if_neg c7] at H
                have c7b0 : decide ((wrap64 (x5_1 + 5)) < (a0.size : Int)) = false := decide_eq_false c7
                clear c7
                have H' := Aside0.mk H
                clear H
                have p5 : 0 ≤ (x5_1 : Int) := of_decide_eq_true (by first | (with_reducible assumption) | assumption)
                have q5 : x5_1 < (a0.size : Int) := of_decide_eq_true (by first | (with_reducible assumption) | assumption)
                have hx5 := bt_at a0 x5_1
                replace p5 := eq_true p5
                replace q5 := eq_true q5
                go_wp2
                go_meet
                case rel => exact ⟨_, (false), (by first | rfl | (simp; done) | (simp [*]; done)), H', ⟨by have := HK1.out; first | omega | exact Nat.le_refl _⟩, ⟨by repeat (first | (with_reducible first | exact HB.out | apply below_alloc | apply pw_below_drewN | apply below_drew1) | exact HB.out)⟩⟩
            · rw [if_neg c6] at H
              have c6b0 : ((bt a0 x5_1) == 37) = false := beq_eq_false_iff_ne.mpr c6
              have c6b1 : ((bt a0 x5_1) != 37) = true := bne_iff_ne.mpr c6
              have H' := Aside0.mk H
              clear H
              have p5 : 0 ≤ (x5_1 : Int) := of_decide_eq_true (by first | (with_reducible assumption) | assumption)
              have q5 : x5_1 < (a0.size : Int) := of_decide_eq_true (by first | (with_reducible assumption) | assumption)
              have hx5 := bt_at a0 x5_1
              replace p5 := eq_true p5
              replace q5 := eq_true q5
              go_wp2
              go_meet
              case rel => exact ⟨_, (false), (by first | rfl | (simp; done) | (simp [*]; done)), H', ⟨by have := HK1.out; first | omega | exact Nat.le_refl _⟩, ⟨by repeat (first | (with_reducible first | exact HB.out | apply below_alloc | apply pw_below_drewN | apply below_drew1) | exact HB.out)⟩⟩
          · rw [if_neg c4] at H
            exact absurd H (by simp)
        case rest =>
          clear HC3
          try clear c1
          try clear p1
          try clear q1
          try clear hx1
          try clear c2
          try clear c2b0
          try clear p2
          try clear c4
          try clear c4b0
          try clear p5
          try clear q5
          try clear hx5
          try clear c6
          try clear c6b0
          try clear c6b1
          try clear p6
          try clear c7
          try clear c7b0
          try clear c9
          try clear c9b0
          try clear c10
          try clear c10b0
          try clear p11
          try clear q11
          try clear hx11
          try clear p11
          try clear p5
          try clear q11
          try clear q5
          obtain ⟨kq, x31_2, rfl, HA, HJ2, HB⟩ := hcut
          cases kq with
          | zero => exact absurd HA.out (by simp [spec_Unescape.j1])
          | succ kj2 =>
            have H := HA.out
            clear HA
            simp only [spec_Unescape.j1] at H
            have HC12 := Aside0.mk H
            clear H
            go_upto_if 31 with (fail)
            go_cut [6, 7] (fun v6 v7 wc => ∃ (kq : Nat) (x6_11 : Int) (x7_11 : Int), v6 = .int .i64 x6_11 ∧ v7 = .int .i64 x7_11 ∧ Aside0 (spec_Unescape.j2 kq a0 x4_1 x5_1 x6_11 x7_11 = some (r1, r2)) ∧ Aside0 (kq ≤ kj2) ∧ Aside0 (Below w.heap.size w wc))
            case first =>
              have H := HC12.out
              clear HC12
              by_cases c13 : x31_2 = true
              · subst c13
                have H1 : (if 0 ≤ (wrap64 (x5_1 + 2)) then (if (wrap64 (x5_1 + 2)) ≤ (wrap64 (x5_1 + 6)) then (if (wrap64 (x5_1 + 6)) ≤ (a0.size : Int) then ((spec_hexes.f kj2 (a0.extract ((wrap64 (x5_1 + 2)) : Int).toNat ((wrap64 (x5_1 + 6)) : Int).toNat)).bind fun t104 => (spec_Unescape.j2 kj2 a0 x4_1 x5_1 t104 5)) else (none)) else (none)) else (none)) = some (r1, r2) := by rw [if_pos rfl] at H; exact H
                clear H
                have H := H1
                clear H1
                obtain ⟨ji14, hji14⟩ : ∃ j_ : Int, (wrap64 (x5_1 + 2)) = j_ := ⟨_, rfl⟩
                replace H : (if 0 ≤ (ji14) then (if (ji14) ≤ (wrap64 (x5_1 + 6)) then (if (wrap64 (x5_1 + 6)) ≤ (a0.size : Int) then ((spec_hexes.f kj2 (a0.extract ((ji14) : Int).toNat ((wrap64 (x5_1 + 6)) : Int).toNat)).bind fun t104 => (spec_Unescape.j2 kj2 a0 x4_1 x5_1 t104 5)) else (none)) else (none)) else (none)) = some (r1, r2) := by first | (rw [hji14] at H; exact H) | (simp only [hji14] at H ⊢; exact H)
                have hji14w : (IntKind.i64.wrap (x5_1 + 2)) = ji14 := (i64_w _).trans hji14
                by_cases c15 : 0 ≤ (ji14)
                · rw [if_pos c15] at H
                  have c15b0 := eq_true c15
                  have c15b1 : decide (0 ≤ (ji14)) = true := decide_eq_true c15
                  clear c15
                  by_cases c16 : (ji14) ≤ (wrap64 (x5_1 + 6))
                  · rw [if_pos c16] at H
                    have c16b0 := eq_true c16
                    have c16b1 : decide ((ji14) ≤ (wrap64 (x5_1 + 6))) = true := decide_eq_true c16
                    by_cases c17 : (wrap64 (x5_1 + 6)) ≤ (a0.size : Int)
                    · rw [if_pos c17] at H
                      have c17b0 := eq_true c17
                      have c17b1 : decide ((wrap64 (x5_1 + 6)) ≤ (a0.size : Int)) = true := decide_eq_true c17
                      replace H := Option.bind_eq_some_iff.mp H
                      obtain ⟨t104, A180, H⟩ := H
                      replace H : (spec_Unescape.j2 kj2 a0 x4_1 x5_1 t104 5) = some (r1, r2) := H
                      have A18 := Aside0.mk A180
                      clear A180
                      have H' := Aside0.mk H
                      clear H
                      go_wp2_with (first | ((with_reducible refine gate_callee (f := 12) rfl ?_); refine goesL_ (some 38) rfl rfl Tryd.func12 (by kernel_rfl) rfl #[.string (a0.extract ((ji14) : Int).toNat ((wrap64 (x5_1 + 6)) : Int).toNat)] rfl (by (try simp only [List.map_toArray, List.map_cons, List.map_nil]); first | done | (simp only [hji14]; rfl) | rfl | (simp only [List.length_drop, List.length_take]; rfl)) ?_; (with_reducible refine (spec_hexes.calls kj2 (a0.extract ((ji14) : Int).toNat ((wrap64 (x5_1 + 6)) : Int).toNat) t104 _ A18.out).mono ?_); rintro e w' ⟨rfl, ⟨nd, rfl⟩⟩; refine ⟨_, rfl, ?_⟩))
                      go_meet
                      case rel => exact ⟨_, (t104), (5), (by first | rfl | (simp; done) | (simp [*]; done)), (by first | rfl | (simp; done) | (simp [*]; done)), H', ⟨by have := HK1.out; have := HJ2.out; first | omega | exact Nat.le_refl _⟩, ⟨by repeat (first | (with_reducible first | exact HB.out | apply below_alloc | apply pw_below_drewN | apply below_drew1) | exact HB.out)⟩⟩
                    · rw [if_neg c17] at H
                      exact absurd H (by simp)
                  · rw [if_neg c16] at H
                    exact absurd H (by simp)
                · rw [if_neg c15] at H
                  exact absurd H (by simp)
              · replace c13 := Bool.eq_false_iff.mpr c13
                subst c13
                have H1 : (if 0 ≤ x5_1 then (if x5_1 < (a0.size : Int) then (if (bt a0 x5_1) = 37 then (if (wrap64 (x5_1 + 2)) < (a0.size : Int) then (if 0 ≤ (wrap64 (x5_1 + 1)) then (if (wrap64 (x5_1 + 1)) ≤ (wrap64 (x5_1 + 3)) then (if (wrap64 (x5_1 + 3)) ≤ (a0.size : Int) then ((spec_hexes.f kj2 (a0.extract ((wrap64 (x5_1 + 1)) : Int).toNat ((wrap64 (x5_1 + 3)) : Int).toNat)).bind fun t105 => (spec_Unescape.j2 kj2 a0 x4_1 x5_1 t105 2)) else (none)) else (none)) else (none)) else (spec_Unescape.j2 kj2 a0 x4_1 x5_1 0 0)) else (spec_Unescape.j2 kj2 a0 x4_1 x5_1 0 0)) else (none)) else (none)) = some (r1, r2) := by rw [if_neg (show ¬ (false = true) by decide)] at H; exact H
                clear H
                have H := H1
                clear H1
                by_cases c19 : 0 ≤ x5_1
                · rw [if_pos c19] at H
                  have c19b0 : decide (0 ≤ x5_1) = true := decide_eq_true c19
                  clear c19
                  (first | rw [c19b0] | (simp only [i64_w, i32_w]; rw [c19b0]) | skip)
                  by_cases c20 : x5_1 < (a0.size : Int)
                  · rw [if_pos c20] at H
                    have c20b0 : decide (x5_1 < (a0.size : Int)) = true := decide_eq_true c20
                    clear c20
                    by_cases c22 : (bt a0 x5_1) = 37
                    · rw [if_pos c22] at H
                      have c22b0 : ((bt a0 x5_1) == 37) = true := beq_iff_eq.mpr c22
                      have c22b1 : ((bt a0 x5_1) != 37) = false := bne_eq_false_iff_eq.mpr c22
                      clear c22
                      by_cases c23 : (wrap64 (x5_1 + 2)) < (a0.size : Int)
                      · rw [if_pos c23] at H
                        have c23b0 : decide ((wrap64 (x5_1 + 2)) < (a0.size : Int)) = true := decide_eq_true c23
                        clear c23
                        obtain ⟨ji24, hji24⟩ : ∃ j_ : Int, (wrap64 (x5_1 + 1)) = j_ := ⟨_, rfl⟩
                        replace H : (if 0 ≤ (ji24) then (if (ji24) ≤ (wrap64 (x5_1 + 3)) then (if (wrap64 (x5_1 + 3)) ≤ (a0.size : Int) then ((spec_hexes.f kj2 (a0.extract ((ji24) : Int).toNat ((wrap64 (x5_1 + 3)) : Int).toNat)).bind fun t105 => (spec_Unescape.j2 kj2 a0 x4_1 x5_1 t105 2)) else (none)) else (none)) else (none)) = some (r1, r2) := by first | (rw [hji24] at H; exact H) | (simp only [hji24] at H ⊢; exact H)
                        have hji24w : (IntKind.i64.wrap (x5_1 + 1)) = ji24 := (i64_w _).trans hji24
                        by_cases c25 : 0 ≤ (ji24)
                        · rw [if_pos c25] at H
                          have c25b0 := eq_true c25
                          have c25b1 : decide (0 ≤ (ji24)) = true := decide_eq_true c25
                          clear c25
                          by_cases c26 : (ji24) ≤ (wrap64 (x5_1 + 3))
                          · rw [if_pos c26] at H
                            have c26b0 := eq_true c26
                            have c26b1 : decide ((ji24) ≤ (wrap64 (x5_1 + 3))) = true := decide_eq_true c26
                            by_cases c27 : (wrap64 (x5_1 + 3)) ≤ (a0.size : Int)
                            · rw [if_pos c27] at H
                              have c27b0 := eq_true c27
                              have c27b1 : decide ((wrap64 (x5_1 + 3)) ≤ (a0.size : Int)) = true := decide_eq_true c27
                              replace H := Option.bind_eq_some_iff.mp H
                              obtain ⟨t105, A280, H⟩ := H
                              replace H : (spec_Unescape.j2 kj2 a0 x4_1 x5_1 t105 2) = some (r1, r2) := H
                              have A28 := Aside0.mk A280
                              clear A280
                              have H' := Aside0.mk H
                              clear H
                              have p21 : 0 ≤ (x5_1 : Int) := of_decide_eq_true (by first | (with_reducible assumption) | assumption)
                              have q21 : x5_1 < (a0.size : Int) := of_decide_eq_true (by first | (with_reducible assumption) | assumption)
                              have hx21 := bt_at a0 x5_1
                              replace p21 := eq_true p21
                              replace q21 := eq_true q21
                              go_wp2_with (first | ((with_reducible refine gate_callee (f := 12) rfl ?_); refine goesL_ (some 56) rfl rfl Tryd.func12 (by kernel_rfl) rfl #[.string (a0.extract ((ji24) : Int).toNat ((wrap64 (x5_1 + 3)) : Int).toNat)] rfl (by (try simp only [List.map_toArray, List.map_cons, List.map_nil]); first | done | (simp only [hji24]; rfl) | rfl | (simp only [List.length_drop, List.length_take]; rfl)) ?_; (with_reducible refine (spec_hexes.calls kj2 (a0.extract ((ji24) : Int).toNat ((wrap64 (x5_1 + 3)) : Int).toNat) t105 _ A28.out).mono ?_); rintro e w' ⟨rfl, ⟨nd, rfl⟩⟩; refine ⟨_, rfl, ?_⟩))
                              go_meet
                              case rel => exact ⟨_, (t105), (2), (by first | rfl | (simp; done) | (simp [*]; done)), (by first | rfl | (simp; done) | (simp [*]; done)), H', ⟨by have := HK1.out; have := HJ2.out; first | omega | exact Nat.le_refl _⟩, ⟨by repeat (first | (with_reducible first | exact HB.out | apply below_alloc | apply pw_below_drewN | apply below_drew1) | exact HB.out)⟩⟩
                            · rw [if_neg c27] at H
                              exact absurd H (by simp)
                          · rw [if_neg c26] at H
                            exact absurd H (by simp)
                        · rw [if_neg c25] at H
                          exact absurd H (by simp)
                      · rw [if_neg c23] at H
                        have c23b0 : decide ((wrap64 (x5_1 + 2)) < (a0.size : Int)) = false := decide_eq_false c23
                        clear c23
                        have H' := Aside0.mk H
                        clear H
                        have p21 : 0 ≤ (x5_1 : Int) := of_decide_eq_true (by first | (with_reducible assumption) | assumption)
                        have q21 : x5_1 < (a0.size : Int) := of_decide_eq_true (by first | (with_reducible assumption) | assumption)
                        have hx21 := bt_at a0 x5_1
                        replace p21 := eq_true p21
                        replace q21 := eq_true q21
                        go_wp2
                        go_meet
                        case rel => exact ⟨_, (0), (0), (by first | rfl | (simp; done) | (simp [*]; done)), (by first | rfl | (simp; done) | (simp [*]; done)), H', ⟨by have := HK1.out; have := HJ2.out; first | omega | exact Nat.le_refl _⟩, ⟨by repeat (first | (with_reducible first | exact HB.out | apply below_alloc | apply pw_below_drewN | apply below_drew1) | exact HB.out)⟩⟩
                    · rw [if_neg c22] at H
                      have c22b0 : ((bt a0 x5_1) == 37) = false := beq_eq_false_iff_ne.mpr c22
                      have c22b1 : ((bt a0 x5_1) != 37) = true := bne_iff_ne.mpr c22
                      have H' := Aside0.mk H
                      clear H
                      have p21 : 0 ≤ (x5_1 : Int) := of_decide_eq_true (by first | (with_reducible assumption) | assumption)
                      have q21 : x5_1 < (a0.size : Int) := of_decide_eq_true (by first | (with_reducible assumption) | assumption)
                      have hx21 := bt_at a0 x5_1
                      replace p21 := eq_true p21
                      replace q21 := eq_true q21
                      go_wp2
                      go_meet
                      case rel => exact ⟨_, (0), (0), (by first | rfl | (simp; done) | (simp [*]; done)), (by first | rfl | (simp; done) | (simp [*]; done)), H', ⟨by have := HK1.out; have := HJ2.out; first | omega | exact Nat.le_refl _⟩, ⟨by repeat (first | (with_reducible first | exact HB.out | apply below_alloc | apply pw_below_drewN | apply below_drew1) | exact HB.out)⟩⟩
                  · rw [if_neg c20] at H
                    exact absurd H (by simp)
                · rw [if_neg c19] at H
                  exact absurd H (by simp)
            case rest =>
              clear HC12
              try clear c1
              try clear p1
              try clear q1
              try clear hx1
              try clear c2
              try clear c2b0
              try clear p2
              try clear q2
              try clear hx2
              try clear c4
              try clear c4b0
              try clear p5
              try clear q5
              try clear hx5
              try clear c6
              try clear c6b0
              try clear c6b1
              try clear p6
              try clear c7
              try clear c7b0
              try clear c9
              try clear c9b0
              try clear c10
              try clear c10b0
              try clear p11
              try clear q11
              try clear hx11
              try clear c12
              try clear c13
              try clear c15
              try clear c15b0
              try clear c15b1
              try clear c16
              try clear c16b0
              try clear c16b1
              try clear c17
              try clear c17b0
              try clear c17b1
              try clear c19
              try clear c19b0
              try clear c20
              try clear c20b0
              try clear p21
              try clear q21
              try clear hx21
              try clear c22
              try clear c22b0
              try clear c22b1
              try clear c23
              try clear c23b0
              try clear c25
              try clear c25b0
              try clear c25b1
              try clear c26
              try clear c26b0
              try clear c26b1
              try clear c27
              try clear c27b0
              try clear c27b1
              try clear p1
              try clear p11
              try clear p2
              try clear p21
              try clear p5
              try clear p6
              try clear q1
              try clear q11
              try clear q21
              try clear q5
              obtain ⟨kq, x6_11, x7_11, rfl, rfl, HA, HJ11, HB⟩ := hcut
              cases kq with
              | zero => exact absurd HA.out (by simp [spec_Unescape.j2])
              | succ kj11 =>
                have H := HA.out
                clear HA
                simp only [spec_Unescape.j2] at H
                have HC29 := Aside0.mk H
                clear H
                go_upto_region 10 with (fail)
                go_cut [62] (fun v62 wc => ∃ (kq : Nat) (x62_28 : Bool), v62 = .bool x62_28 ∧ Aside0 (spec_Unescape.j3 kq a0 x4_1 x5_1 x6_11 x7_11 x62_28 = some (r1, r2)) ∧ Aside0 (kq ≤ kj11) ∧ Aside0 (Below w.heap.size w wc))
                case first =>
                  have H := HC29.out
                  clear HC29
                  by_cases c30 : x7_11 = 5
                  · rw [if_pos c30] at H
                    have c30b0 : (x7_11 == 5) = true := beq_iff_eq.mpr c30
                    have c30b1 : (x7_11 != 5) = false := bne_eq_false_iff_eq.mpr c30
                    clear c30
                    (first | rw [c30b0] | (simp only [i64_w, i32_w]; rw [c30b0]) | skip)
                    have H' := Aside0.mk H
                    clear H
                    go_wp2
                    go_meet
                    case rel => exact ⟨_, (decide (x6_11 < 0)), (by first | rfl | (simp; done) | (simp [*]; done)), H', ⟨by have := HK1.out; have := HJ2.out; have := HJ11.out; first | omega | exact Nat.le_refl _⟩, ⟨by repeat (first | (with_reducible first | exact HB.out | apply below_alloc | apply pw_below_drewN | apply below_drew1) | exact HB.out)⟩⟩
                  · rw [if_neg c30] at H
                    have c30b0 : (x7_11 == 5) = false := beq_eq_false_iff_ne.mpr c30
                    have c30b1 : (x7_11 != 5) = true := bne_iff_ne.mpr c30
                    (first | rw [c30b0] | (simp only [i64_w, i32_w]; rw [c30b0]) | skip)
                    have H' := Aside0.mk H
                    clear H
                    go_wp2
                    go_meet
                    case rel => exact ⟨_, (false), (by first | rfl | (simp; done) | (simp [*]; done)), H', ⟨by have := HK1.out; have := HJ2.out; have := HJ11.out; first | omega | exact Nat.le_refl _⟩, ⟨by repeat (first | (with_reducible first | exact HB.out | apply below_alloc | apply pw_below_drewN | apply below_drew1) | exact HB.out)⟩⟩
                case rest =>
                  clear HC29
                  try clear c1
                  try clear p1
                  try clear q1
                  try clear hx1
                  try clear c2
                  try clear c2b0
                  try clear p2
                  try clear q2
                  try clear hx2
                  try clear c3
                  try clear c4
                  try clear c4b0
                  try clear p5
                  try clear q5
                  try clear hx5
                  try clear c6
                  try clear c6b0
                  try clear c6b1
                  try clear p6
                  try clear c7
                  try clear c7b0
                  try clear c9
                  try clear c9b0
                  try clear c10
                  try clear c10b0
                  try clear p11
                  try clear q11
                  try clear hx11
                  try clear c12
                  try clear c13
                  try clear c15
                  try clear c15b0
                  try clear c15b1
                  try clear c16
                  try clear c16b0
                  try clear c16b1
                  try clear c17
                  try clear c17b0
                  try clear c17b1
                  try clear c19
                  try clear c19b0
                  try clear c20
                  try clear c20b0
                  try clear p21
                  try clear q21
                  try clear hx21
                  try clear c22
                  try clear c22b0
                  try clear c22b1
                  try clear c23
                  try clear c23b0
                  try clear c25
                  try clear c25b0
                  try clear c25b1
                  try clear c26
                  try clear c26b0
                  try clear c26b1
                  try clear c27
                  try clear c27b0
                  try clear c27b1
                  try clear c30
                  try clear c30b0
                  try clear c30b1
                  try clear p1
                  try clear p11
                  try clear p2
                  try clear p21
                  try clear p5
                  try clear p6
                  try clear q1
                  try clear q11
                  try clear q2
                  try clear q21
                  try clear q5
                  obtain ⟨kq, x62_28, rfl, HA, HJ28, HB⟩ := hcut
                  cases kq with
                  | zero => exact absurd HA.out (by simp [spec_Unescape.j3])
                  | succ kj28 =>
                    have H := HA.out
                    clear HA
                    simp only [spec_Unescape.j3] at H
                    have HC31 := Aside0.mk H
                    clear H
                    go_upto_if 62 with (fail)
                    go_cut [6, 7] (fun v6 v7 wc => ∃ (kq : Nat) (x6_30 : Int) (x7_30 : Int), v6 = .int .i64 x6_30 ∧ v7 = .int .i64 x7_30 ∧ Aside0 (spec_Unescape.j4 kq a0 x4_1 x5_1 x6_30 x7_30 = some (r1, r2)) ∧ Aside0 (kq ≤ kj28) ∧ Aside0 (Below w.heap.size w wc))
                    case first =>
                      have H := HC31.out
                      clear HC31
                      by_cases c32 : x62_28 = true
                      · subst c32
                        have H1 : (spec_Unescape.j4 kj28 a0 x4_1 x5_1 (-1) 0) = some (r1, r2) := by rw [if_pos rfl] at H; exact H
                        clear H
                        have H := H1
                        clear H1
                        have H' := Aside0.mk H
                        clear H
                        go_wp2
                        go_meet
                        case rel => exact ⟨_, ((-1)), (0), (by first | rfl | (simp; done) | (simp [*]; done)), (by first | rfl | (simp; done) | (simp [*]; done)), H', ⟨by have := HK1.out; have := HJ2.out; have := HJ11.out; have := HJ28.out; first | omega | exact Nat.le_refl _⟩, ⟨by repeat (first | (with_reducible first | exact HB.out | apply below_alloc | apply pw_below_drewN | apply below_drew1) | exact HB.out)⟩⟩
                      · replace c32 := Bool.eq_false_iff.mpr c32
                        subst c32
                        have H1 : (spec_Unescape.j4 kj28 a0 x4_1 x5_1 x6_11 x7_11) = some (r1, r2) := by rw [if_neg (show ¬ (false = true) by decide)] at H; exact H
                        clear H
                        have H := H1
                        clear H1
                        have H' := Aside0.mk H
                        clear H
                        go_wp2
                        go_meet
                        case rel => exact ⟨_, (x6_11), (x7_11), (by first | rfl | (simp; done) | (simp [*]; done)), (by first | rfl | (simp; done) | (simp [*]; done)), H', ⟨by have := HK1.out; have := HJ2.out; have := HJ11.out; have := HJ28.out; first | omega | exact Nat.le_refl _⟩, ⟨by repeat (first | (with_reducible first | exact HB.out | apply below_alloc | apply pw_below_drewN | apply below_drew1) | exact HB.out)⟩⟩
                    case rest =>
                      clear HC31
                      try clear c1
                      try clear p1
                      try clear q1
                      try clear hx1
                      try clear c2
                      try clear c2b0
                      try clear p2
                      try clear q2
                      try clear hx2
                      try clear c3
                      try clear c4
                      try clear c4b0
                      try clear p5
                      try clear q5
                      try clear hx5
                      try clear c6
                      try clear c6b0
                      try clear c6b1
                      try clear p6
                      try clear c7
                      try clear c7b0
                      try clear c9
                      try clear c9b0
                      try clear c10
                      try clear c10b0
                      try clear p11
                      try clear q11
                      try clear hx11
                      try clear c12
                      try clear c13
                      try clear c15
                      try clear c15b0
                      try clear c15b1
                      try clear c16
                      try clear c16b0
                      try clear c16b1
                      try clear c17
                      try clear c17b0
                      try clear c17b1
                      try clear c19
                      try clear c19b0
                      try clear c20
                      try clear c20b0
                      try clear p21
                      try clear q21
                      try clear hx21
                      try clear c22
                      try clear c22b0
                      try clear c22b1
                      try clear c23
                      try clear c23b0
                      try clear c25
                      try clear c25b0
                      try clear c25b1
                      try clear c26
                      try clear c26b0
                      try clear c26b1
                      try clear c27
                      try clear c27b0
                      try clear c27b1
                      try clear c30
                      try clear c30b0
                      try clear c30b1
                      try clear c32
                      try clear p1
                      try clear p11
                      try clear p2
                      try clear p21
                      try clear p5
                      try clear p6
                      try clear q1
                      try clear q11
                      try clear q2
                      try clear q21
                      try clear q5
                      obtain ⟨kq, x6_30, x7_30, rfl, rfl, HA, HJ30, HB⟩ := hcut
                      cases kq with
                      | zero => exact absurd HA.out (by simp [spec_Unescape.j4])
                      | succ kj30 =>
                        have H := HA.out
                        clear HA
                        simp only [spec_Unescape.j4] at H
                        have HC33 := Aside0.mk H
                        clear H
                        go_upto_region 12 with (fail)
                        go_cut [68] (fun v68 wc => ∃ (kq : Nat) (x68_32 : Bool), v68 = .bool x68_32 ∧ Aside0 (spec_Unescape.j5 kq a0 x4_1 x5_1 x6_30 x7_30 x68_32 = some (r1, r2)) ∧ Aside0 (kq ≤ kj30) ∧ Aside0 (Below w.heap.size w wc))
                        case first =>
                          have H := HC33.out
                          clear HC33
                          by_cases c34 : x7_30 = 0
                          · rw [if_pos c34] at H
                            have c34b0 : (x7_30 == 0) = true := beq_iff_eq.mpr c34
                            have c34b1 : (x7_30 != 0) = false := bne_eq_false_iff_eq.mpr c34
                            clear c34
                            (first | rw [c34b0] | (simp only [i64_w, i32_w]; rw [c34b0]) | skip)
                            have H' := Aside0.mk H
                            clear H
                            go_wp2
                            go_meet
                            case rel => exact ⟨_, (true), (by first | rfl | (simp; done) | (simp [*]; done)), H', ⟨by have := HK1.out; have := HJ2.out; have := HJ11.out; have := HJ28.out; have := HJ30.out; first | omega | exact Nat.le_refl _⟩, ⟨by repeat (first | (with_reducible first | exact HB.out | apply below_alloc | apply pw_below_drewN | apply below_drew1) | exact HB.out)⟩⟩
                          · rw [if_neg c34] at H
                            have c34b0 : (x7_30 == 0) = false := beq_eq_false_iff_ne.mpr c34
                            have c34b1 : (x7_30 != 0) = true := bne_iff_ne.mpr c34
                            (first | rw [c34b0] | (simp only [i64_w, i32_w]; rw [c34b0]) | skip)
                            have H' := Aside0.mk H
                            clear H
                            go_wp2
                            go_meet
                            case rel => exact ⟨_, (decide (x6_30 < 0)), (by first | rfl | (simp; done) | (simp [*]; done)), H', ⟨by have := HK1.out; have := HJ2.out; have := HJ11.out; have := HJ28.out; have := HJ30.out; first | omega | exact Nat.le_refl _⟩, ⟨by repeat (first | (with_reducible first | exact HB.out | apply below_alloc | apply pw_below_drewN | apply below_drew1) | exact HB.out)⟩⟩
                        case rest =>
                          clear HC33
                          try clear c1
                          try clear p1
                          try clear q1
                          try clear hx1
                          try clear c2
                          try clear c2b0
                          try clear p2
                          try clear q2
                          try clear hx2
                          try clear c3
                          try clear c4
                          try clear c4b0
                          try clear p5
                          try clear q5
                          try clear hx5
                          try clear c6
                          try clear c6b0
                          try clear c6b1
                          try clear p6
                          try clear c7
                          try clear c7b0
                          try clear c9
                          try clear c9b0
                          try clear c10
                          try clear c10b0
                          try clear p11
                          try clear q11
                          try clear hx11
                          try clear c12
                          try clear c13
                          try clear c15
                          try clear c15b0
                          try clear c15b1
                          try clear c16
                          try clear c16b0
                          try clear c16b1
                          try clear c17
                          try clear c17b0
                          try clear c17b1
                          try clear c19
                          try clear c19b0
                          try clear c20
                          try clear c20b0
                          try clear p21
                          try clear q21
                          try clear hx21
                          try clear c22
                          try clear c22b0
                          try clear c22b1
                          try clear c23
                          try clear c23b0
                          try clear c25
                          try clear c25b0
                          try clear c25b1
                          try clear c26
                          try clear c26b0
                          try clear c26b1
                          try clear c27
                          try clear c27b0
                          try clear c27b1
                          try clear c30
                          try clear c30b0
                          try clear c30b1
                          try clear c32
                          try clear c34
                          try clear c34b0
                          try clear c34b1
                          try clear p1
                          try clear p11
                          try clear p2
                          try clear p21
                          try clear p5
                          try clear p6
                          try clear q1
                          try clear q11
                          try clear q2
                          try clear q21
                          try clear q5
                          obtain ⟨kq, x68_32, rfl, HA, HJ32, HB⟩ := hcut
                          cases kq with
                          | zero => exact absurd HA.out (by simp [spec_Unescape.j5])
                          | succ kj32 =>
                            have H := HA.out
                            clear HA
                            simp only [spec_Unescape.j5] at H
                            by_cases c35 : x68_32 = true
                            · subst c35
                              have H1 : (if 0 ≤ x5_1 then (if x5_1 ≤ (wrap64 (x5_1 + 1)) then (if (wrap64 (x5_1 + 1)) ≤ (a0.size : Int) then (if x4_1.size + (a0.extract (x5_1 : Int).toNat ((wrap64 (x5_1 + 1)) : Int).toNat).size ≤ 9223372036854775807 then (spec_Unescape.l0 kj32 a0 (x4_1 ++ (a0.extract (x5_1 : Int).toNat ((wrap64 (x5_1 + 1)) : Int).toNat)) (wrap64 (x5_1 + 1))) else (none)) else (none)) else (none)) else (none)) = some (r1, r2) := by rw [if_pos rfl] at H; exact H
                              clear H
                              have H := H1
                              clear H1
                              by_cases c36 : 0 ≤ x5_1
                              · rw [if_pos c36] at H
                                have c36b0 := eq_true c36
                                have c36b1 : decide (0 ≤ x5_1) = true := decide_eq_true c36
                                clear c36
                                by_cases c37 : x5_1 ≤ (wrap64 (x5_1 + 1))
                                · rw [if_pos c37] at H
                                  have c37b0 := eq_true c37
                                  have c37b1 : decide (x5_1 ≤ (wrap64 (x5_1 + 1))) = true := decide_eq_true c37
                                  by_cases c38 : (wrap64 (x5_1 + 1)) ≤ (a0.size : Int)
                                  · rw [if_pos c38] at H
                                    have c38b0 := eq_true c38
                                    have c38b1 : decide ((wrap64 (x5_1 + 1)) ≤ (a0.size : Int)) = true := decide_eq_true c38
                                    by_cases c39 : x4_1.size + (a0.extract (x5_1 : Int).toNat ((wrap64 (x5_1 + 1)) : Int).toNat).size ≤ 9223372036854775807
                                    · rw [if_pos c39] at H
                                      have c39b0 := eq_true c39
                                      have c39b1 : decide (x4_1.size + (a0.extract (x5_1 : Int).toNat ((wrap64 (x5_1 + 1)) : Int).toNat).size ≤ 9223372036854775807) = true := decide_eq_true c39
                                      try have c39b2 : (9223372036854775807 < x4_1.size + (a0.extract (x5_1 : Int).toNat ((wrap64 (x5_1 + 1)) : Int).toNat).size) = False := eq_false (Nat.not_lt.2 c39)
                                      have H' := Aside0.mk H
                                      clear H
                                      go_wp2
                                      go_roundg kj32
                                      case measure => have := HK1.out; have := HJ2.out; have := HJ11.out; have := HJ28.out; have := HJ30.out; have := HJ32.out; omega
                                      case rel => exact ⟨(x4_1 ++ (a0.extract (x5_1 : Int).toNat ((wrap64 (x5_1 + 1)) : Int).toNat)), (wrap64 (x5_1 + 1)), (by first | rfl | (simp; done) | (simp [*]; done)), (by first | rfl | (simp; done) | (simp [*]; done)), H', ⟨by have := HK1.out; have := HJ2.out; have := HJ11.out; have := HJ28.out; have := HJ30.out; have := HJ32.out; omega⟩, ⟨by repeat (first | (with_reducible first | exact HB.out | apply below_alloc | apply pw_below_drewN | apply below_drew1) | exact HB.out)⟩⟩
                                    · rw [if_neg c39] at H
                                      exact absurd H (by simp)
                                  · rw [if_neg c38] at H
                                    exact absurd H (by simp)
                                · rw [if_neg c37] at H
                                  exact absurd H (by simp)
                              · rw [if_neg c36] at H
                                exact absurd H (by simp)
                            · replace c35 := Bool.eq_false_iff.mpr c35
                              subst c35
                              have H1 : (if x6_30 ≥ 128 then (some ((⟨#[]⟩ : ByteArray), false)) else ((some (([(x6_30) % 256] : List Int) : List Int)).bind fun y106 => (if x4_1.size + (strOfNums y106).size ≤ 9223372036854775807 then (spec_Unescape.l0 kj32 a0 (x4_1 ++ (strOfNums y106)) (wrap64 ((wrap64 (x5_1 + x7_30)) + 1))) else (none)))) = some (r1, r2) := by rw [if_neg (show ¬ (false = true) by decide)] at H; exact H
                              clear H
                              have H := H1
                              clear H1
                              by_cases c40 : x6_30 ≥ 128
                              · rw [if_pos c40] at H
                                have c40b0 : decide (128 ≤ x6_30) = true := decide_eq_true c40
                                clear c40
                                simp only [Option.some.injEq, Prod.mk.injEq] at H
                                obtain ⟨rfl, rfl⟩ := H
                                go_wp2
                                go_ret2
                                exact ⟨by first | rfl | (simp [errW_none, errW_some] <;> rfl) | (simp [*, errW_none, errW_some] <;> rfl), by repeat (first | (with_reducible first | exact HB.out | apply below_alloc | apply pw_below_drewN | apply below_drew1) | exact HB.out)⟩
                              · rw [if_neg c40] at H
                                have c40b0 : decide (128 ≤ x6_30) = false := decide_eq_false c40
                                clear c40
                                obtain ⟨y106, hy106⟩ : ∃ y_ : List Int, y_ = (([(x6_30) % 256] : List Int)) := ⟨_, rfl⟩
                                replace H : (if x4_1.size + (strOfNums y106).size ≤ 9223372036854775807 then (spec_Unescape.l0 kj32 a0 (x4_1 ++ (strOfNums y106)) (wrap64 ((wrap64 (x5_1 + x7_30)) + 1))) else (none)) = some (r1, r2) := by first | (rw [hy106]; with_reducible exact H) | (have H2_ := (Option.bind_some _ _).symm.trans H; rw [hy106]; with_reducible exact H2_) | (have H2_ := (Option.bind_some _ _).symm.trans H; with_reducible exact H2_) | with_reducible exact H | (rw [hy106]; exact H) | exact H
                                have Ny106 := Aside0.mk hy106
                                clear hy106
                                by_cases c41 : x4_1.size + (strOfNums y106).size ≤ 9223372036854775807
                                · rw [if_pos c41] at H
                                  have c41b0 := eq_true c41
                                  have c41b1 : decide (x4_1.size + (strOfNums y106).size ≤ 9223372036854775807) = true := decide_eq_true c41
                                  try have c41b2 : (9223372036854775807 < x4_1.size + (strOfNums y106).size) = False := eq_false (Nat.not_lt.2 c41)
                                  have H' := Aside0.mk H
                                  clear H
                                  go_wp2_with (first | ((with_reducible refine gate_dst (N := 81) rfl ?_); (try (refine gate_guard (by rfl) ?_; dsimp only)); refine Kd.R_lit (Kd.int .u8) _ 5 ?hg (N := 81) ?hd (xs := ([(x6_30) % 256] : List Int)) (inner := [.int .u8 ((x6_30) % 256)]) (ok := fun _ => True) (okp := fun _ => True) ?hr ?hp (fun _ hk => hk) trivial (Below.refl _ _) (Nat.le_refl _) (by simp) ?_; (case hd => rfl); (case hg => rfl); (case hr => first | (go_simp; done) | (go_simp; rfl)); (case hp => exact (Reps.one (show Kd.M (Kd.int .u8) _ _ _ ((x6_30) % 256) [.int .u8 ((x6_30) % 256)] from rfl) (Reps.none _ _))); intro v107 w42 ho43 hb hg_ hnew_; clear hg_ hnew_; (first | rw [← Ny106.out] at ho43 | (simp only [Int.reduceToNat] at ho43; rw [← Ny106.out] at ho43)); have n0_ := Aside0.mk (Kd.R_lower ho43 (below_size (by repeat (first | (with_reducible first | exact HB.out | apply below_alloc | apply pw_below_drewN | apply below_drew1) | exact HB.out)))); have n1_ := Aside0.mk (below_step (by repeat (first | (with_reducible first | exact HB.out | apply below_alloc | apply pw_below_drewN | apply below_drew1) | exact HB.out)) hb); clear HB; have HO108 := n0_; have HB := n1_; clear n0_ n1_; clear hb ho43; have hcv44 := own_string (P := Tryd.prog) Tryd.underlying29 Tryd.underlying5 Tryd.underlying9 (Kd.own_of_R HO108.out)))
                                  go_roundg kj32
                                  case measure => have := HK1.out; have := HJ2.out; have := HJ11.out; have := HJ28.out; have := HJ30.out; have := HJ32.out; omega
                                  case rel => exact ⟨(x4_1 ++ (strOfNums y106)), (wrap64 ((wrap64 (x5_1 + x7_30)) + 1)), (by first | rfl | (simp; done) | (simp [*]; done)), (by first | rfl | (simp; done) | (simp [*]; done)), H', ⟨by have := HK1.out; have := HJ2.out; have := HJ11.out; have := HJ28.out; have := HJ30.out; have := HJ32.out; omega⟩, ⟨by repeat (first | (with_reducible first | exact HB.out | apply below_alloc | apply pw_below_drewN | apply below_drew1) | exact HB.out)⟩⟩
                                · rw [if_neg c41] at H
                                  exact absurd H (by simp)
      · rw [if_neg c2] at H
        have c2b0 : decide (x5_1 < (a0.size : Int)) = false := decide_eq_false c2
        clear c2
        simp only [Option.some.injEq, Prod.mk.injEq] at H
        obtain ⟨rfl, rfl⟩ := H
        go_wp2
        go_ret2
        exact ⟨by first | rfl | (simp [errW_none, errW_some] <;> rfl) | (simp [*, errW_none, errW_some] <;> rfl), by repeat (first | (with_reducible first | exact HB.out | apply below_alloc | apply pw_below_drewN | apply below_drew1) | exact HB.out)⟩

end Go.Proofs.YtllaepgbpmiglaaDoor.QFnEscape
