-- Written by a program of this session out of the translation (a copy of the kit's print, turned). Not trusted: Lean checks it.
import Derived.Test.YtllaepgbpmiglaaDoorQFnEscapex0
import Derived.Test.YtllaepgbpmiglaaDoorQFnEscapex6
import Derived.Test.YtllaepgbpmiglaaDoorQFnEscapex7
namespace Go.Proofs.YtllaepgbpmiglaaDoor.QFnEscape
open Go.RowKit Go.Proofs.YtllaepgbpmiglaaDoorW.PrintWords Go.Proofs.YtllaepgbpmiglaaDoorW.PrintLast Go.Proofs.YtllaepgbpmiglaaDoorW.PrintMore
attribute [local go_sem] max2_int min2_int max_two min_two max_three min_three max_four min_four   -- for this text's walks alone
set_option linter.unusedVariables false
set_option linter.unusedSimpArgs false

/-! ### otto_builtinUnescape: function 19 -/
mutual
def otto_builtinUnescape.l0 : Nat → ByteArray → List Int → Int → Int → Option (ByteArray)
  | 0, _, _, _, _ => none
  | k + 1, x0, x3, x4, x5 => if x5 < x4 then (if 0 ≤ x5 then (if x5 < (x0.size : Int) then (if (bt x0 x5) = 37 then (if x5 ≤ (wrap64 (x4 - 6)) then (if 0 ≤ (wrap64 (x5 + 1)) then (if (wrap64 (x5 + 1)) < (x0.size : Int) then (otto_builtinUnescape.j1 k x0 x3 x4 x5 ((bt x0 (wrap64 (x5 + 1))) == 117)) else (none)) else (none)) else (otto_builtinUnescape.j1 k x0 x3 x4 x5 false)) else (if x3.length < 35184372088832 then (otto_builtinUnescape.l0 k x0 (x3 ++ [wrap32 (bt x0 x5)]) x4 (wrap64 (x5 + 1))) else (none))) else (none)) else (none)) else (some (runesBytes x3))
def otto_builtinUnescape.j1 : Nat → ByteArray → List Int → Int → Int → Bool → Option (ByteArray)
  | 0, _, _, _, _, _ => none
  | k + 1, x0, x3, x4, x5, x36 => if x36 = true then (if 0 ≤ (wrap64 (x5 + 2)) then (if (wrap64 (x5 + 2)) ≤ (wrap64 (x5 + 6)) then (if (wrap64 (x5 + 6)) ≤ (x0.size : Int) then ((otto_zzHex.f k (x0.extract ((wrap64 (x5 + 2)) : Int).toNat ((wrap64 (x5 + 6)) : Int).toNat)).bind fun bt214 => (if bt214.2 = true then (if 0 < (bt214.1.length : Int) then (if 1 < (bt214.1.length : Int) then ((utf16_Decode.f k (([IntKind.u16.wrap ((IntKind.u16.wrap ((IntKind.u16.wrap (rd bt214.1 0)) * 256)) + (IntKind.u16.wrap (rd bt214.1 1)))] : List Int))).bind fun t223 => (if 0 < (t223.length : Int) then (if x3.length < 35184372088832 then (otto_builtinUnescape.l0 k x0 (x3 ++ [rd t223 0]) x4 (wrap64 (x5 + 6))) else (none)) else (none))) else (none)) else (none)) else (otto_builtinUnescape.j2 k x0 x3 x4 x5))) else (none)) else (none)) else (none)) else (otto_builtinUnescape.j2 k x0 x3 x4 x5)
def otto_builtinUnescape.j2 : Nat → ByteArray → List Int → Int → Int → Option (ByteArray)
  | 0, _, _, _, _ => none
  | k + 1, x0, x3, x4, x5 => if x5 ≤ (wrap64 (x4 - 3)) then (if 0 ≤ (wrap64 (x5 + 1)) then (if (wrap64 (x5 + 1)) ≤ (wrap64 (x5 + 3)) then (if (wrap64 (x5 + 3)) ≤ (x0.size : Int) then ((otto_zzHex.f k (x0.extract ((wrap64 (x5 + 1)) : Int).toNat ((wrap64 (x5 + 3)) : Int).toNat)).bind fun bt230 => (if bt230.2 = true then (if 0 < (bt230.1.length : Int) then ((utf16_Decode.f k (([IntKind.u16.wrap (rd bt230.1 0)] : List Int))).bind fun t238 => (if 0 < (t238.length : Int) then (if x3.length < 35184372088832 then (otto_builtinUnescape.l0 k x0 (x3 ++ [rd t238 0]) x4 (wrap64 (x5 + 3))) else (none)) else (none))) else (none)) else (if 0 ≤ x5 then (if x5 < (x0.size : Int) then (if x3.length < 35184372088832 then (otto_builtinUnescape.l0 k x0 (x3 ++ [wrap32 (bt x0 x5)]) x4 (wrap64 (x5 + 1))) else (none)) else (none)) else (none)))) else (none)) else (none)) else (none)) else (if 0 ≤ x5 then (if x5 < (x0.size : Int) then (if x3.length < 35184372088832 then (otto_builtinUnescape.l0 k x0 (x3 ++ [wrap32 (bt x0 x5)]) x4 (wrap64 (x5 + 1))) else (none)) else (none)) else (none))
end
def otto_builtinUnescape.f (k : Nat) (a0 : ByteArray) : Option (ByteArray) := if 0 ≤ (a0.size : Int) then (if ((a0.size : Int) : Int).toNat ≤ 70368744177664 then (otto_builtinUnescape.l0 k a0 (([] : List Int)) (a0.size : Int) 0) else (none)) else (none)
theorem otto_builtinUnescape.mono_l : ∀ k, (∀ y0 y1 y2 y3, LeO (otto_builtinUnescape.l0 k y0 y1 y2 y3) (otto_builtinUnescape.l0 (k + 1) y0 y1 y2 y3)) ∧ (∀ y0 y1 y2 y3 y4, LeO (otto_builtinUnescape.j1 k y0 y1 y2 y3 y4) (otto_builtinUnescape.j1 (k + 1) y0 y1 y2 y3 y4)) ∧ (∀ y0 y1 y2 y3, LeO (otto_builtinUnescape.j2 k y0 y1 y2 y3) (otto_builtinUnescape.j2 (k + 1) y0 y1 y2 y3))
  | 0 => ⟨fun _ _ _ _ r h => by simp [otto_builtinUnescape.l0] at h, fun _ _ _ _ _ r h => by simp [otto_builtinUnescape.j1] at h, fun _ _ _ _ r h => by simp [otto_builtinUnescape.j2] at h⟩
  | k + 1 => by
    obtain ⟨ih0, ih1, ih2⟩ := otto_builtinUnescape.mono_l k
    refine ⟨?_, ?_, ?_⟩
    · intro y0 y1 y2 y3
      unfold otto_builtinUnescape.l0
      repeat' first
      | (with_reducible exact ih0 _ _ _ _)
      | (with_reducible exact ih1 _ _ _ _ _)
      | (with_reducible exact ih2 _ _ _ _)
      | (with_reducible exact otto_zzHex.mono _ _)
      | (with_reducible exact utf16_Decode.mono _ _)
      | (with_reducible exact LeO.refl _)
      | (with_reducible exact LeO.none _)
      | (with_reducible refine LeO.ite ?_ ?_)
      | (with_reducible refine LeO.bind ?_ (fun _ => ?_))
      | exact ih0 _ _ _ _
      | exact ih1 _ _ _ _ _
      | exact ih2 _ _ _ _
      | exact otto_zzHex.mono _ _
      | exact utf16_Decode.mono _ _
      | exact LeO.none _
      | refine LeO.ite ?_ ?_
      | refine LeO.bind ?_ (fun _ => ?_)
    · intro y0 y1 y2 y3 y4
      unfold otto_builtinUnescape.j1
      repeat' first
      | (with_reducible exact ih0 _ _ _ _)
      | (with_reducible exact ih1 _ _ _ _ _)
      | (with_reducible exact ih2 _ _ _ _)
      | (with_reducible exact otto_zzHex.mono _ _)
      | (with_reducible exact utf16_Decode.mono _ _)
      | (with_reducible exact LeO.refl _)
      | (with_reducible exact LeO.none _)
      | (with_reducible refine LeO.ite ?_ ?_)
      | (with_reducible refine LeO.bind ?_ (fun _ => ?_))
      | exact ih0 _ _ _ _
      | exact ih1 _ _ _ _ _
      | exact ih2 _ _ _ _
      | exact otto_zzHex.mono _ _
      | exact utf16_Decode.mono _ _
      | exact LeO.none _
      | refine LeO.ite ?_ ?_
      | refine LeO.bind ?_ (fun _ => ?_)
    · intro y0 y1 y2 y3
      unfold otto_builtinUnescape.j2
      repeat' first
      | (with_reducible exact ih0 _ _ _ _)
      | (with_reducible exact ih1 _ _ _ _ _)
      | (with_reducible exact ih2 _ _ _ _)
      | (with_reducible exact otto_zzHex.mono _ _)
      | (with_reducible exact utf16_Decode.mono _ _)
      | (with_reducible exact LeO.refl _)
      | (with_reducible exact LeO.none _)
      | (with_reducible refine LeO.ite ?_ ?_)
      | (with_reducible refine LeO.bind ?_ (fun _ => ?_))
      | exact ih0 _ _ _ _
      | exact ih1 _ _ _ _ _
      | exact ih2 _ _ _ _
      | exact otto_zzHex.mono _ _
      | exact utf16_Decode.mono _ _
      | exact LeO.none _
      | refine LeO.ite ?_ ?_
      | refine LeO.bind ?_ (fun _ => ?_)
theorem otto_builtinUnescape.mono : ∀ a0 k, LeO (otto_builtinUnescape.f k a0) (otto_builtinUnescape.f (k + 1) a0) := by
  intro a0 k
  obtain ⟨ih0, ih1, ih2⟩ := otto_builtinUnescape.mono_l k
  unfold otto_builtinUnescape.f
  repeat' first
      | (with_reducible exact ih0 _ _ _ _)
      | (with_reducible exact ih1 _ _ _ _ _)
      | (with_reducible exact ih2 _ _ _ _)
      | (with_reducible exact otto_zzHex.mono _ _)
      | (with_reducible exact utf16_Decode.mono _ _)
      | (with_reducible exact LeO.refl _)
      | (with_reducible exact LeO.none _)
      | (with_reducible refine LeO.ite ?_ ?_)
      | (with_reducible refine LeO.bind ?_ (fun _ => ?_))
      | exact ih0 _ _ _ _
      | exact ih1 _ _ _ _ _
      | exact ih2 _ _ _ _
      | exact otto_zzHex.mono _ _
      | exact utf16_Decode.mono _ _
      | exact LeO.none _
      | refine LeO.ite ?_ ?_
      | refine LeO.bind ?_ (fun _ => ?_)
set_option maxHeartbeats 8000000 in
set_option maxRecDepth 100000 in
theorem otto_builtinUnescape.calls (k : Nat) (a0 : ByteArray) (r : ByteArray) (w : World) (h : otto_builtinUnescape.f k a0 = some r) :
    Calls Tryd.prog 19 #[.string a0] w fun e w' => e = .returned (.string r) ∧ Below w.heap.size w w' := by
  have HB := Aside0.mk (Below.refl w.heap.size w)
  have H : (if 0 ≤ (a0.size : Int) then (if ((a0.size : Int) : Int).toNat ≤ 70368744177664 then (otto_builtinUnescape.l0 k a0 (([] : List Int)) (a0.size : Int) 0) else (none)) else (none)) = some r := h
  clear h
  by_cases c2 : 0 ≤ (a0.size : Int)
  · rw [if_pos c2] at H
    have c2b0 := eq_true c2
    have c2b1 : decide (0 ≤ (a0.size : Int)) = true := decide_eq_true c2
    clear c2
    by_cases c3 : ((a0.size : Int) : Int).toNat ≤ 70368744177664
    · rw [if_pos c3] at H
      have c3b0 := eq_true c3
      have c3b1 : decide (((a0.size : Int) : Int).toNat ≤ 70368744177664) = true := decide_eq_true c3
      clear c3
      obtain ⟨y211, hy211⟩ : ∃ y_ : List Int, y_ = (([] : List Int)) := ⟨_, rfl⟩
      replace H : (otto_builtinUnescape.l0 k a0 y211 (a0.size : Int) 0) = some r := by first | (rw [hy211]; with_reducible exact H) | (have H2_ := (Option.bind_some _ _).symm.trans H; rw [hy211]; with_reducible exact H2_) | (have H2_ := (Option.bind_some _ _).symm.trans H; with_reducible exact H2_) | with_reducible exact H | (rw [hy211]; exact H) | exact H
      have Ny211 := Aside0.mk hy211
      clear hy211
      have H' := Aside0.mk H
      clear H
      go_enter Tryd.func19, Tryd.ntmps19
      go_wp2_with (first | ((with_reducible refine gate_dst (N := 16) rfl ?_); refine R_makecap (Kd.int .i32) _ 21 rfl (N := 16) rfl 41 _ _ rfl (a0.size : Int) rfl rfl Tryd.underlying41 (.int .i32 0) 4 info21 (by decide) (by omega) (ok := fun _ => True) (_okp := fun _ => True) trivial (of_decide_eq_true (by first | (with_reducible assumption) | assumption)) (Nat.le_trans (Nat.mul_le_mul_right _ (of_decide_eq_true (by first | (with_reducible assumption) | assumption) : (a0.size : Int).toNat ≤ 70368744177664)) (by omega)) (Below.refl _ _) (Nat.le_refl _) ?_; intro v212 w4 ho5 hb hg_ hnew_; clear hg_ hnew_; (first | rw [← Ny211.out] at ho5 | (simp only [Int.reduceToNat] at ho5; rw [← Ny211.out] at ho5)); have n0_ := Aside0.mk (Kd.R_lower ho5 (below_size (by repeat (first | (with_reducible first | exact HB.out | apply below_alloc | apply pw_below_drewN | apply below_drew1) | exact HB.out)))); have n1_ := Aside0.mk (below_step (by repeat (first | (with_reducible first | exact HB.out | apply below_alloc | apply pw_below_drewN | apply below_drew1) | exact HB.out)) hb); clear HB; have HO213 := n0_; have HB := n1_; clear n0_ n1_; clear hb ho5))
      repeat (go_quiet (first | ((with_reducible refine gate_dst (N := 16) rfl ?_); refine R_makecap (Kd.int .i32) _ 21 rfl (N := 16) rfl 41 _ _ rfl (a0.size : Int) rfl rfl Tryd.underlying41 (.int .i32 0) 4 info21 (by decide) (by omega) (ok := fun _ => True) (_okp := fun _ => True) trivial (of_decide_eq_true (by first | (with_reducible assumption) | assumption)) (Nat.le_trans (Nat.mul_le_mul_right _ (of_decide_eq_true (by first | (with_reducible assumption) | assumption) : (a0.size : Int).toNat ≤ 70368744177664)) (by omega)) (Below.refl _ _) (Nat.le_refl _) ?_; intro v212 w4 ho5 hb hg_ hnew_; clear hg_ hnew_; (first | rw [← Ny211.out] at ho5 | (simp only [Int.reduceToNat] at ho5; rw [← Ny211.out] at ho5)); have n0_ := Aside0.mk (Kd.R_lower ho5 (below_size (by repeat (first | (with_reducible first | exact HB.out | apply below_alloc | apply pw_below_drewN | apply below_drew1) | exact HB.out)))); have n1_ := Aside0.mk (below_step (by repeat (first | (with_reducible first | exact HB.out | apply below_alloc | apply pw_below_drewN | apply below_drew1) | exact HB.out)) hb); clear HB; have HO213 := n0_; have HB := n1_; clear n0_ n1_; clear hb ho5)); try go_wp2_with (first | ((with_reducible refine gate_dst (N := 16) rfl ?_); refine R_makecap (Kd.int .i32) _ 21 rfl (N := 16) rfl 41 _ _ rfl (a0.size : Int) rfl rfl Tryd.underlying41 (.int .i32 0) 4 info21 (by decide) (by omega) (ok := fun _ => True) (_okp := fun _ => True) trivial (of_decide_eq_true (by first | (with_reducible assumption) | assumption)) (Nat.le_trans (Nat.mul_le_mul_right _ (of_decide_eq_true (by first | (with_reducible assumption) | assumption) : (a0.size : Int).toNat ≤ 70368744177664)) (by omega)) (Below.refl _ _) (Nat.le_refl _) ?_; intro v212 w4 ho5 hb hg_ hnew_; clear hg_ hnew_; (first | rw [← Ny211.out] at ho5 | (simp only [Int.reduceToNat] at ho5; rw [← Ny211.out] at ho5)); have n0_ := Aside0.mk (Kd.R_lower ho5 (below_size (by repeat (first | (with_reducible first | exact HB.out | apply below_alloc | apply pw_below_drewN | apply below_drew1) | exact HB.out)))); have n1_ := Aside0.mk (below_step (by repeat (first | (with_reducible first | exact HB.out | apply below_alloc | apply pw_below_drewN | apply below_drew1) | exact HB.out)) hb); clear HB; have HO213 := n0_; have HB := n1_; clear n0_ n1_; clear hb ho5)))
      go_loopg [3, 5] k (fun kq v3 v5 w' => ∃ (x3_1 : List Int) (x5_1 : Int), v5 = .int .i64 x5_1 ∧ Aside0 (otto_builtinUnescape.l0 kq a0 x3_1 (a0.size : Int) x5_1 = some r) ∧ Aside0 (kq ≤ k) ∧ Aside0 (Kd.R (Kd.int .i32) 21 w' w.heap.size (fun _ => True) v3 x3_1) ∧ Aside0 (Below w.heap.size w w'))
      case atStart => exact ⟨(y211), (0), (by first | rfl | (simp; done) | (simp [*]; done)), H', ⟨Nat.le_refl _⟩, ⟨by (with_reducible repeat (first | apply Kd.R_alloc | apply Kd.R_drewN | apply Kd.R_drew)); exact HO213.out⟩, ⟨by repeat (first | (with_reducible first | exact HB.out | apply below_alloc | apply pw_below_drewN | apply below_drew1) | exact HB.out)⟩⟩
      case round =>
        clear H'
        try clear c1
        try clear c2
        try clear c2b0
        try clear c2b1
        try clear p2
        try clear c3
        try clear c3b0
        try clear c3b1
        obtain ⟨x3_1, x5_1, rfl, HA, HK1, HO_3, HB⟩ := hrel
        cases gk with
        | zero => exact absurd HA.out (by simp [otto_builtinUnescape.l0])
        | succ k1 =>
          have H := HA.out
          clear HA
          simp only [otto_builtinUnescape.l0] at H
          by_cases c6 : x5_1 < (a0.size : Int)
          · rw [if_pos c6] at H
            have c6b0 : decide (x5_1 < (a0.size : Int)) = true := decide_eq_true c6
            clear c6
            by_cases c7 : 0 ≤ x5_1
            · rw [if_pos c7] at H
              have c7b0 : decide (0 ≤ x5_1) = true := decide_eq_true c7
              clear c7
              by_cases c8 : x5_1 < (a0.size : Int)
              · rw [if_pos c8] at H
                have c8b0 : decide (x5_1 < (a0.size : Int)) = true := decide_eq_true c8
                clear c8
                by_cases c10 : (bt a0 x5_1) = 37
                · rw [if_pos c10] at H
                  have c10b0 : ((bt a0 x5_1) == 37) = true := beq_iff_eq.mpr c10
                  have c10b1 : ((bt a0 x5_1) != 37) = false := bne_eq_false_iff_eq.mpr c10
                  clear c10
                  have HC11 := Aside0.mk H
                  clear H
                  have p9 : 0 ≤ (x5_1 : Int) := of_decide_eq_true (by first | (with_reducible assumption) | assumption)
                  have q9 : x5_1 < (a0.size : Int) := of_decide_eq_true (by first | (with_reducible assumption) | assumption)
                  have hx9 := bt_at a0 x5_1
                  replace p9 := eq_true p9
                  replace q9 := eq_true q9
                  go_upto_region 6 with (fail)
                  repeat (go_quiet (fail); go_upto_region 6 with (fail))
                  go_cut [36] (fun v36 wc => ∃ (kq : Nat) (x36_10 : Bool), v36 = .bool x36_10 ∧ Aside0 (otto_builtinUnescape.j1 kq a0 x3_1 (a0.size : Int) x5_1 x36_10 = some r) ∧ Aside0 (kq ≤ k1) ∧ Aside0 (Kd.R (Kd.int .i32) 21 wc w.heap.size (fun _ => True) u3 x3_1) ∧ Aside0 (Below w.heap.size w wc))
                  case first =>
                    have H := HC11.out
                    clear HC11
                    by_cases c12 : x5_1 ≤ (wrap64 ((a0.size : Int) - 6))
                    · rw [if_pos c12] at H
                      have c12b0 : decide (x5_1 ≤ (wrap64 ((a0.size : Int) - 6))) = true := decide_eq_true c12
                      clear c12
                      (first | rw [c12b0] | (simp only [i64_w, i32_w]; rw [c12b0]) | skip)
                      obtain ⟨ji13, hji13⟩ : ∃ j_ : Int, (wrap64 (x5_1 + 1)) = j_ := ⟨_, rfl⟩
                      replace H : (if 0 ≤ (ji13) then (if (ji13) < (a0.size : Int) then (otto_builtinUnescape.j1 k1 a0 x3_1 (a0.size : Int) x5_1 ((bt a0 (ji13)) == 117)) else (none)) else (none)) = some r := by first | (rw [hji13] at H; exact H) | (simp only [hji13] at H ⊢; exact H)
                      have hji13w : (IntKind.i64.wrap (x5_1 + 1)) = ji13 := (i64_w _).trans hji13
                      by_cases c14 : 0 ≤ (ji13)
                      · rw [if_pos c14] at H
                        have c14b0 : decide (0 ≤ (ji13)) = true := decide_eq_true c14
                        clear c14
                        by_cases c15 : (ji13) < (a0.size : Int)
                        · rw [if_pos c15] at H
                          have c15b0 : decide ((ji13) < (a0.size : Int)) = true := decide_eq_true c15
                          clear c15
                          have H' := Aside0.mk H
                          clear H
                          have p16 : 0 ≤ ((ji13) : Int) := of_decide_eq_true (by first | (with_reducible assumption) | assumption)
                          have q16 : (ji13) < (a0.size : Int) := of_decide_eq_true (by first | (with_reducible assumption) | assumption)
                          have hx16 := bt_at a0 (ji13)
                          replace p16 := eq_true p16
                          replace q16 := eq_true q16
                          go_wp2
                          repeat (go_quiet (fail); try go_wp2)
                          go_meet
                          case rel => exact ⟨_, (((bt a0 (ji13)) == 117)), (by first | rfl | (simp; done) | (simp only [← hji13] <;> (first | rfl | simp)) | (simp [*]; done)), H', ⟨by have := HK1.out; first | omega | exact Nat.le_refl _⟩, ⟨by (with_reducible repeat (first | apply Kd.R_alloc | apply Kd.R_drewN | apply Kd.R_drew)); exact HO_3.out⟩, ⟨by repeat (first | (with_reducible first | exact HB.out | apply below_alloc | apply pw_below_drewN | apply below_drew1) | exact HB.out)⟩⟩
                        · rw [if_neg c15] at H
                          exact absurd H (by simp)
                      · rw [if_neg c14] at H
                        exact absurd H (by simp)
                    · rw [if_neg c12] at H
                      have c12b0 : decide (x5_1 ≤ (wrap64 ((a0.size : Int) - 6))) = false := decide_eq_false c12
                      clear c12
                      (first | rw [c12b0] | (simp only [i64_w, i32_w]; rw [c12b0]) | skip)
                      have H' := Aside0.mk H
                      clear H
                      go_wp2
                      repeat (go_quiet (fail); try go_wp2)
                      go_meet
                      case rel => exact ⟨_, (false), (by first | rfl | (simp; done) | (simp [*]; done)), H', ⟨by have := HK1.out; first | omega | exact Nat.le_refl _⟩, ⟨by (with_reducible repeat (first | apply Kd.R_alloc | apply Kd.R_drewN | apply Kd.R_drew)); exact HO_3.out⟩, ⟨by repeat (first | (with_reducible first | exact HB.out | apply below_alloc | apply pw_below_drewN | apply below_drew1) | exact HB.out)⟩⟩
                  case rest =>
                    clear HC11
                    try clear c1
                    try clear p1
                    try clear q1
                    try clear hx1
                    try clear c2
                    try clear c2b0
                    try clear c2b1
                    try clear p2
                    try clear c3
                    try clear c3b0
                    try clear c3b1
                    try clear c6
                    try clear c6b0
                    try clear p6
                    try clear c7
                    try clear c7b0
                    try clear c8
                    try clear c8b0
                    try clear p9
                    try clear q9
                    try clear hx9
                    try clear c10
                    try clear c10b0
                    try clear c10b1
                    try clear c12
                    try clear c12b0
                    try clear c14
                    try clear c14b0
                    try clear c15
                    try clear c15b0
                    try clear p16
                    try clear q16
                    try clear hx16
                    try clear p16
                    try clear p2
                    try clear p9
                    try clear q16
                    try clear q9
                    obtain ⟨kq, x36_10, rfl, HA, HJ10, HO_3, HB⟩ := hcut
                    cases kq with
                    | zero => exact absurd HA.out (by simp [otto_builtinUnescape.j1])
                    | succ kj10 =>
                      have H := HA.out
                      clear HA
                      simp only [otto_builtinUnescape.j1] at H
                      have HC17 := Aside0.mk H
                      clear H
                      go_upto_if 36 with (fail)
                      repeat (go_quiet (fail); go_upto_if 36 with (fail))
                      go_cut [3, 5] (fun v3 v5 wc => ∃ (kq : Nat) (x3_16 : List Int) (x5_16 : Int), v5 = .int .i64 x5_16 ∧ Aside0 (otto_builtinUnescape.j2 kq a0 x3_16 (a0.size : Int) x5_16 = some r) ∧ Aside0 (kq ≤ kj10) ∧ Aside0 (Kd.R (Kd.int .i32) 21 wc w.heap.size (fun _ => True) v3 x3_16) ∧ Aside0 (Below w.heap.size w wc))
                      case first =>
                        have H := HC17.out
                        clear HC17
                        by_cases c18 : x36_10 = true
                        · subst c18
                          have H1 : (if 0 ≤ (wrap64 (x5_1 + 2)) then (if (wrap64 (x5_1 + 2)) ≤ (wrap64 (x5_1 + 6)) then (if (wrap64 (x5_1 + 6)) ≤ (a0.size : Int) then ((otto_zzHex.f kj10 (a0.extract ((wrap64 (x5_1 + 2)) : Int).toNat ((wrap64 (x5_1 + 6)) : Int).toNat)).bind fun bt214 => (if bt214.2 = true then (if 0 < (bt214.1.length : Int) then (if 1 < (bt214.1.length : Int) then ((utf16_Decode.f kj10 (([IntKind.u16.wrap ((IntKind.u16.wrap ((IntKind.u16.wrap (rd bt214.1 0)) * 256)) + (IntKind.u16.wrap (rd bt214.1 1)))] : List Int))).bind fun t223 => (if 0 < (t223.length : Int) then (if x3_1.length < 35184372088832 then (otto_builtinUnescape.l0 kj10 a0 (x3_1 ++ [rd t223 0]) (a0.size : Int) (wrap64 (x5_1 + 6))) else (none)) else (none))) else (none)) else (none)) else (otto_builtinUnescape.j2 kj10 a0 x3_1 (a0.size : Int) x5_1))) else (none)) else (none)) else (none)) = some r := by rw [if_pos rfl] at H; exact H
                          clear H
                          have H := H1
                          clear H1
                          obtain ⟨ji19, hji19⟩ : ∃ j_ : Int, (wrap64 (x5_1 + 2)) = j_ := ⟨_, rfl⟩
                          replace H : (if 0 ≤ (ji19) then (if (ji19) ≤ (wrap64 (x5_1 + 6)) then (if (wrap64 (x5_1 + 6)) ≤ (a0.size : Int) then ((otto_zzHex.f kj10 (a0.extract ((ji19) : Int).toNat ((wrap64 (x5_1 + 6)) : Int).toNat)).bind fun bt214 => (if bt214.2 = true then (if 0 < (bt214.1.length : Int) then (if 1 < (bt214.1.length : Int) then ((utf16_Decode.f kj10 (([IntKind.u16.wrap ((IntKind.u16.wrap ((IntKind.u16.wrap (rd bt214.1 0)) * 256)) + (IntKind.u16.wrap (rd bt214.1 1)))] : List Int))).bind fun t223 => (if 0 < (t223.length : Int) then (if x3_1.length < 35184372088832 then (otto_builtinUnescape.l0 kj10 a0 (x3_1 ++ [rd t223 0]) (a0.size : Int) (wrap64 (x5_1 + 6))) else (none)) else (none))) else (none)) else (none)) else (otto_builtinUnescape.j2 kj10 a0 x3_1 (a0.size : Int) x5_1))) else (none)) else (none)) else (none)) = some r := by first | (rw [hji19] at H; exact H) | (simp only [hji19] at H ⊢; exact H)
                          have hji19w : (IntKind.i64.wrap (x5_1 + 2)) = ji19 := (i64_w _).trans hji19
                          by_cases c20 : 0 ≤ (ji19)
                          · rw [if_pos c20] at H
                            have c20b0 := eq_true c20
                            have c20b1 : decide (0 ≤ (ji19)) = true := decide_eq_true c20
                            clear c20
                            by_cases c21 : (ji19) ≤ (wrap64 (x5_1 + 6))
                            · rw [if_pos c21] at H
                              have c21b0 := eq_true c21
                              have c21b1 : decide ((ji19) ≤ (wrap64 (x5_1 + 6))) = true := decide_eq_true c21
                              by_cases c22 : (wrap64 (x5_1 + 6)) ≤ (a0.size : Int)
                              · rw [if_pos c22] at H
                                have c22b0 := eq_true c22
                                have c22b1 : decide ((wrap64 (x5_1 + 6)) ≤ (a0.size : Int)) = true := decide_eq_true c22
                                replace H := Option.bind_eq_some_iff.mp H
                                obtain ⟨⟨t214, t215⟩, A230, H⟩ := H
                                replace H : (if t215 = true then (if 0 < (t214.length : Int) then (if 1 < (t214.length : Int) then ((utf16_Decode.f kj10 (([IntKind.u16.wrap ((IntKind.u16.wrap ((IntKind.u16.wrap (rd t214 0)) * 256)) + (IntKind.u16.wrap (rd t214 1)))] : List Int))).bind fun t223 => (if 0 < (t223.length : Int) then (if x3_1.length < 35184372088832 then (otto_builtinUnescape.l0 kj10 a0 (x3_1 ++ [rd t223 0]) (a0.size : Int) (wrap64 (x5_1 + 6))) else (none)) else (none))) else (none)) else (none)) else (otto_builtinUnescape.j2 kj10 a0 x3_1 (a0.size : Int) x5_1)) = some r := H
                                have A23 := Aside0.mk A230
                                clear A230
                                by_cases c24 : t215 = true
                                · subst c24
                                  have H1 : (if 0 < (t214.length : Int) then (if 1 < (t214.length : Int) then ((utf16_Decode.f kj10 (([IntKind.u16.wrap ((IntKind.u16.wrap ((IntKind.u16.wrap (rd t214 0)) * 256)) + (IntKind.u16.wrap (rd t214 1)))] : List Int))).bind fun t223 => (if 0 < (t223.length : Int) then (if x3_1.length < 35184372088832 then (otto_builtinUnescape.l0 kj10 a0 (x3_1 ++ [rd t223 0]) (a0.size : Int) (wrap64 (x5_1 + 6))) else (none)) else (none))) else (none)) else (none)) = some r := by rw [if_pos rfl] at H; exact H
                                  clear H
                                  have H := H1
                                  clear H1
                                  by_cases c25 : 0 < (t214.length : Int)
                                  · rw [if_pos c25] at H
                                    have c25b0 : decide (0 < (t214.length : Int)) = true := decide_eq_true c25
                                    have c25b1 : decide (0 < t214.length) = true := decide_eq_true (by omega)
                                    clear c25
                                    (first | rw [c25b0] | (simp only [i64_w, i32_w]; rw [c25b0]) | skip)
                                    by_cases c26 : 1 < (t214.length : Int)
                                    · rw [if_pos c26] at H
                                      have c26b0 : decide (1 < (t214.length : Int)) = true := decide_eq_true c26
                                      have c26b1 : decide (1 < t214.length) = true := decide_eq_true (by omega)
                                      clear c26
                                      obtain ⟨y220, hy220⟩ : ∃ y_ : List Int, y_ = (([IntKind.u16.wrap ((IntKind.u16.wrap ((IntKind.u16.wrap (rd t214 0)) * 256)) + (IntKind.u16.wrap (rd t214 1)))] : List Int)) := ⟨_, rfl⟩
                                      replace H : ((utf16_Decode.f kj10 y220).bind fun t223 => (if 0 < (t223.length : Int) then (if x3_1.length < 35184372088832 then (otto_builtinUnescape.l0 kj10 a0 (x3_1 ++ [rd t223 0]) (a0.size : Int) (wrap64 (x5_1 + 6))) else (none)) else (none))) = some r := by first | (rw [hy220]; with_reducible exact H) | (have H2_ := (Option.bind_some _ _).symm.trans H; rw [hy220]; with_reducible exact H2_) | (have H2_ := (Option.bind_some _ _).symm.trans H; with_reducible exact H2_) | with_reducible exact H | (rw [hy220]; exact H) | exact H
                                      have Ny220 := Aside0.mk hy220
                                      clear hy220
                                      replace H := Option.bind_eq_some_iff.mp H
                                      obtain ⟨t223, A270, H⟩ := H
                                      replace H : (if 0 < (t223.length : Int) then (if x3_1.length < 35184372088832 then (otto_builtinUnescape.l0 kj10 a0 (x3_1 ++ [rd t223 0]) (a0.size : Int) (wrap64 (x5_1 + 6))) else (none)) else (none)) = some r := H
                                      have A27 := Aside0.mk A270
                                      clear A270
                                      by_cases c28 : 0 < (t223.length : Int)
                                      · rw [if_pos c28] at H
                                        have c28b0 : decide (0 < (t223.length : Int)) = true := decide_eq_true c28
                                        have c28b1 : decide (0 < t223.length) = true := decide_eq_true (by omega)
                                        clear c28
                                        by_cases c29 : x3_1.length < 35184372088832
                                        · rw [if_pos c29] at H
                                          have LMc29 := Aside0.mk c29
                                          clear c29
                                          obtain ⟨y227, hy227⟩ : ∃ y_ : List Int, y_ = (x3_1 ++ [rd t223 0]) := ⟨_, rfl⟩
                                          replace H : (otto_builtinUnescape.l0 kj10 a0 y227 (a0.size : Int) (wrap64 (x5_1 + 6))) = some r := by first | (rw [hy227]; with_reducible exact H) | (have H2_ := (Option.bind_some _ _).symm.trans H; rw [hy227]; with_reducible exact H2_) | (have H2_ := (Option.bind_some _ _).symm.trans H; with_reducible exact H2_) | with_reducible exact H | (rw [hy227]; exact H) | exact H
                                          have Ny227 := Aside0.mk hy227
                                          clear hy227
                                          have H' := Aside0.mk H
                                          clear H
                                          go_wp2_with (first | (go_at_call 23; (with_reducible refine (otto_zzHex.calls kj10 (a0.extract ((ji19) : Int).toNat ((wrap64 (x5_1 + 6)) : Int).toNat) t214 true _ A23.out).mono ?_); rintro e w30 ⟨v216, rfl, ho0, hb⟩; have n0_ := Aside0.mk (Kd.R_below (by (with_reducible repeat (first | apply Kd.R_alloc | apply Kd.R_drewN | apply Kd.R_drew)); exact HO_3.out) hb); have n1_ := Aside0.mk (Kd.R_lower ho0 (below_size (by repeat (first | (with_reducible first | exact HB.out | apply below_alloc | apply pw_below_drewN | apply below_drew1) | exact HB.out)))); have n2_ := Aside0.mk (below_step (by repeat (first | (with_reducible first | exact HB.out | apply below_alloc | apply pw_below_drewN | apply below_drew1) | exact HB.out)) hb); clear HO_3; clear HB; have HO_3 := n0_; have HO217 := n1_; have HB := n2_; clear n0_ n1_ n2_; (try clear hb); (try clear hb2); (try clear hk); (try clear hi); (try clear ho0); obtain ⟨Ao31, co31, eo31⟩ := Kd.R_slice HO217.out; subst eo31; have p218 : 0 ≤ (0 : Int) := (by omega); have q218 : 0 < (t214.length : Int) := of_decide_eq_true (by first | (with_reducible assumption) | assumption); obtain ⟨ad218, e218, hx218_0⟩ := Kd.at_int (Kd.R_reads' HO217.out).2.2 0 p218 q218; cases e218; have qi218 : (0 < t214.length) = True := eq_true (by omega); (try rw [show ((0 : Int)).toNat = 0 from rfl] at hx218_0); (try rw [Addr.add_zero'] at hx218_0); replace p218 := eq_true p218; replace q218 := eq_true q218; have p219 : 0 ≤ (1 : Int) := (by omega); have q219 : 1 < (t214.length : Int) := of_decide_eq_true (by first | (with_reducible assumption) | assumption); obtain ⟨ad219, e219, hx219_0⟩ := Kd.at_int (Kd.R_reads' HO217.out).2.2 1 p219 q219; obtain rfl : ad218 = ad219 := (by injection e219); (try simp only [show (1 : Int).toNat = 1 from rfl, Nat.reduceMul, Nat.reduceEqDiff, Go.Addr.add, ↓reduceIte] at hx219_0); have qi219 : (1 < t214.length) = True := eq_true (by omega); (try rw [show ((1 : Int)).toNat = 1 from rfl] at hx219_0); replace p219 := eq_true p219; replace q219 := eq_true q219) | ((with_reducible refine gate_dst (N := 59) rfl ?_); refine Kd.R_lit (Kd.int .u16) _ 38 ?hg (N := 59) ?hd (xs := ([IntKind.u16.wrap ((IntKind.u16.wrap ((IntKind.u16.wrap (rd t214 0)) * 256)) + (IntKind.u16.wrap (rd t214 1)))] : List Int)) (inner := [.int .u16 (IntKind.u16.wrap ((IntKind.u16.wrap ((IntKind.u16.wrap (rd t214 0)) * 256)) + (IntKind.u16.wrap (rd t214 1))))]) (ok := fun _ => True) (okp := fun _ => True) ?hr ?hp (fun _ hk => hk) trivial (Below.refl _ _) (Nat.le_refl _) (by simp) ?_; (case hd => rfl); (case hg => rfl); (case hr => first | (go_simp; done) | (go_simp; rfl)); (case hp => exact (Reps.one (show Kd.M (Kd.int .u16) _ _ _ (IntKind.u16.wrap ((IntKind.u16.wrap ((IntKind.u16.wrap (rd t214 0)) * 256)) + (IntKind.u16.wrap (rd t214 1)))) [.int .u16 (IntKind.u16.wrap ((IntKind.u16.wrap ((IntKind.u16.wrap (rd t214 0)) * 256)) + (IntKind.u16.wrap (rd t214 1))))] from rfl) (Reps.none _ _))); intro v221 w32 ho33 hb hg_ hnew_; clear hg_ hnew_; (first | rw [← Ny220.out] at ho33 | (simp only [Int.reduceToNat] at ho33; rw [← Ny220.out] at ho33)); have n0_ := Aside0.mk (Kd.R_below (by (with_reducible repeat (first | apply Kd.R_alloc | apply Kd.R_drewN | apply Kd.R_drew)); exact HO_3.out) hb); have n1_ := Aside0.mk (Kd.R_below (by (with_reducible repeat (first | apply Kd.R_alloc | apply Kd.R_drewN | apply Kd.R_drew)); exact HO217.out) hb); have n2_ := Aside0.mk (Kd.R_lower ho33 (below_size (by repeat (first | (with_reducible first | exact HB.out | apply below_alloc | apply pw_below_drewN | apply below_drew1) | exact HB.out)))); have n3_ := Aside0.mk (below_step (by repeat (first | (with_reducible first | exact HB.out | apply below_alloc | apply pw_below_drewN | apply below_drew1) | exact HB.out)) hb); clear HO_3; clear HO217; clear HB; have HO_3 := n0_; have HO217 := n1_; have HO222 := n2_; have HB := n3_; clear n0_ n1_ n2_ n3_; clear hb ho33; obtain ⟨Ao34, co34, eo34⟩ := Kd.R_slice HO222.out; subst eo34) | (go_at_call 24; (with_reducible refine (utf16_Decode.calls kj10 _ _ y220 t223 _ ?side1 ?side2 A27.out).mono ?_); (case side1 => repeat (first | exact (Kd.R_reads' HO222.out).2.2 | (with_reducible refine Kd.C_alloc ?_ _) | (with_reducible refine Kd.C_drewN ?_ _) | (with_reducible refine Kd.C_drew ?_))); (case side2 => exact (Kd.R_reads' HO222.out).2.1); rintro e w35 ⟨v224, rfl, ho0, hb⟩; have n0_ := Aside0.mk (Kd.R_elder' (by (with_reducible repeat (first | apply Kd.R_alloc | apply Kd.R_drewN | apply Kd.R_drew)); exact HO_3.out) (Kd.R_base ho0) hb); have n1_ := Aside0.mk (Kd.R_below (by (with_reducible repeat (first | apply Kd.R_alloc | apply Kd.R_drewN | apply Kd.R_drew)); exact HO217.out) hb); have n2_ := Aside0.mk (Kd.R_below (by (with_reducible repeat (first | apply Kd.R_alloc | apply Kd.R_drewN | apply Kd.R_drew)); exact HO222.out) hb); have n3_ := Aside0.mk (Kd.R_lower (Kd.R_new' ho0 (Kd.R_lt (by (with_reducible repeat (first | apply Kd.R_alloc | apply Kd.R_drewN | apply Kd.R_drew)); exact HO_3.out))) (below_size (by repeat (first | (with_reducible first | exact HB.out | apply below_alloc | apply pw_below_drewN | apply below_drew1) | exact HB.out)))); have n4_ := Aside0.mk (below_step (by repeat (first | (with_reducible first | exact HB.out | apply below_alloc | apply pw_below_drewN | apply below_drew1) | exact HB.out)) hb); clear HO_3; clear HO217; clear HO222; clear HB; have HO_3 := n0_; have HO217 := n1_; have HO222 := n2_; have HO225 := n3_; have HB := n4_; clear n0_ n1_ n2_ n3_ n4_; (try clear hb); (try clear hb2); (try clear hk); (try clear hi); (try clear ho0); obtain ⟨Ao36, co36, eo36⟩ := Kd.R_slice HO225.out; subst eo36; have p226 : 0 ≤ (0 : Int) := (by omega); have q226 : 0 < (t223.length : Int) := of_decide_eq_true (by first | (with_reducible assumption) | assumption); obtain ⟨ad226, e226, hx226_0⟩ := Kd.at_int (Kd.R_reads' HO225.out).2.2 0 p226 q226; cases e226; have qi226 : (0 < t223.length) = True := eq_true (by omega); (try rw [show ((0 : Int)).toNat = 0 from rfl] at hx226_0); (try rw [Addr.add_zero'] at hx226_0); replace p226 := eq_true p226; replace q226 := eq_true q226) | ((with_reducible refine gate_builtin (b := .append) (xs := #[.tmp 63, .tmp 65]) rfl ?_); at_builtin; refine Kd.R_append (Kd.int .i32) (w0 := w) w.heap.size rfl (.tmp 63) (.tmp 65) 41 21 (.int .i32 0) 4 rfl Tryd.underlying41 info21 rfl (by decide) (by omega) u3 x3_1 (rd t223 0) [.int .i32 (rd t223 0)] (fun k_ => some k_ ≠ (.slice (some ad226) t223.length co36 : Value).ownBlock) (fun _ => False) rfl rfl ?aP (fun _ hk => hk.elim) ?aF ?aO ?aB ?aS ?aL ?_; (case aP => exact rfl); (case aB => exact (by repeat (first | (with_reducible first | exact HB.out | apply below_alloc | apply pw_below_drewN | apply below_drew1) | exact HB.out))); (case aF => exact (fun k_ hk => Kd.fresh' (Kd.R_lt (by (with_reducible repeat (first | apply Kd.R_alloc | apply Kd.R_drewN | apply Kd.R_drew)); exact HO225.out)) k_ hk)); (case aO => exact (by (with_reducible repeat (first | apply Kd.R_alloc | apply Kd.R_drewN | apply Kd.R_drew)); exact Kd.R_mono HO_3.out (fun _ hk => hk.2))); (case aS => exact (below_size (by repeat (first | (with_reducible first | exact HB.out | apply below_alloc | apply pw_below_drewN | apply below_drew1) | exact HB.out)))); (case aL => have := LMc29.out; omega); intro v228 w37 ho hb hg hat; rw [← Ny227.out] at ho; have n0_ := Aside0.mk (Kd.R_over' (by (with_reducible repeat (first | apply Kd.R_alloc | apply Kd.R_drewN | apply Kd.R_drew)); exact HO217.out) (Kd.R_typed (by (with_reducible repeat (first | apply Kd.R_alloc | apply Kd.R_drewN | apply Kd.R_drew)); exact HO_3.out)) (by decide) hg); have n1_ := Aside0.mk (Kd.R_over' (by (with_reducible repeat (first | apply Kd.R_alloc | apply Kd.R_drewN | apply Kd.R_drew)); exact HO222.out) (Kd.R_typed (by (with_reducible repeat (first | apply Kd.R_alloc | apply Kd.R_drewN | apply Kd.R_drew)); exact HO_3.out)) (by decide) hg); have n2_ := Aside0.mk (Kd.R_after (ok := (fun _ => True)) (by (with_reducible repeat (first | apply Kd.R_alloc | apply Kd.R_drewN | apply Kd.R_drew)); exact HO225.out) hg hat); have n3_ := Aside0.mk (hb); have n4_ := Aside0.mk (ho); clear HO217; clear HO222; clear HO225; clear HB; clear HO_3; have HO217 := n0_; have HO222 := n1_; have HO225 := n2_; have HB := n3_; have HO229 := n4_; clear n0_ n1_ n2_ n3_ n4_; clear ho hb hg hat))
                                          repeat (go_quiet (first | (go_at_call 23; (with_reducible refine (otto_zzHex.calls kj10 (a0.extract ((ji19) : Int).toNat ((wrap64 (x5_1 + 6)) : Int).toNat) t214 true _ A23.out).mono ?_); rintro e w30 ⟨v216, rfl, ho0, hb⟩; have n0_ := Aside0.mk (Kd.R_below (by (with_reducible repeat (first | apply Kd.R_alloc | apply Kd.R_drewN | apply Kd.R_drew)); exact HO_3.out) hb); have n1_ := Aside0.mk (Kd.R_lower ho0 (below_size (by repeat (first | (with_reducible first | exact HB.out | apply below_alloc | apply pw_below_drewN | apply below_drew1) | exact HB.out)))); have n2_ := Aside0.mk (below_step (by repeat (first | (with_reducible first | exact HB.out | apply below_alloc | apply pw_below_drewN | apply below_drew1) | exact HB.out)) hb); clear HO_3; clear HB; have HO_3 := n0_; have HO217 := n1_; have HB := n2_; clear n0_ n1_ n2_; (try clear hb); (try clear hb2); (try clear hk); (try clear hi); (try clear ho0); obtain ⟨Ao31, co31, eo31⟩ := Kd.R_slice HO217.out; subst eo31; have p218 : 0 ≤ (0 : Int) := (by omega); have q218 : 0 < (t214.length : Int) := of_decide_eq_true (by first | (with_reducible assumption) | assumption); obtain ⟨ad218, e218, hx218_0⟩ := Kd.at_int (Kd.R_reads' HO217.out).2.2 0 p218 q218; cases e218; have qi218 : (0 < t214.length) = True := eq_true (by omega); (try rw [show ((0 : Int)).toNat = 0 from rfl] at hx218_0); (try rw [Addr.add_zero'] at hx218_0); replace p218 := eq_true p218; replace q218 := eq_true q218; have p219 : 0 ≤ (1 : Int) := (by omega); have q219 : 1 < (t214.length : Int) := of_decide_eq_true (by first | (with_reducible assumption) | assumption); obtain ⟨ad219, e219, hx219_0⟩ := Kd.at_int (Kd.R_reads' HO217.out).2.2 1 p219 q219; obtain rfl : ad218 = ad219 := (by injection e219); (try simp only [show (1 : Int).toNat = 1 from rfl, Nat.reduceMul, Nat.reduceEqDiff, Go.Addr.add, ↓reduceIte] at hx219_0); have qi219 : (1 < t214.length) = True := eq_true (by omega); (try rw [show ((1 : Int)).toNat = 1 from rfl] at hx219_0); replace p219 := eq_true p219; replace q219 := eq_true q219) | ((with_reducible refine gate_dst (N := 59) rfl ?_); refine Kd.R_lit (Kd.int .u16) _ 38 ?hg (N := 59) ?hd (xs := ([IntKind.u16.wrap ((IntKind.u16.wrap ((IntKind.u16.wrap (rd t214 0)) * 256)) + (IntKind.u16.wrap (rd t214 1)))] : List Int)) (inner := [.int .u16 (IntKind.u16.wrap ((IntKind.u16.wrap ((IntKind.u16.wrap (rd t214 0)) * 256)) + (IntKind.u16.wrap (rd t214 1))))]) (ok := fun _ => True) (okp := fun _ => True) ?hr ?hp (fun _ hk => hk) trivial (Below.refl _ _) (Nat.le_refl _) (by simp) ?_; (case hd => rfl); (case hg => rfl); (case hr => first | (go_simp; done) | (go_simp; rfl)); (case hp => exact (Reps.one (show Kd.M (Kd.int .u16) _ _ _ (IntKind.u16.wrap ((IntKind.u16.wrap ((IntKind.u16.wrap (rd t214 0)) * 256)) + (IntKind.u16.wrap (rd t214 1)))) [.int .u16 (IntKind.u16.wrap ((IntKind.u16.wrap ((IntKind.u16.wrap (rd t214 0)) * 256)) + (IntKind.u16.wrap (rd t214 1))))] from rfl) (Reps.none _ _))); intro v221 w32 ho33 hb hg_ hnew_; clear hg_ hnew_; (first | rw [← Ny220.out] at ho33 | (simp only [Int.reduceToNat] at ho33; rw [← Ny220.out] at ho33)); have n0_ := Aside0.mk (Kd.R_below (by (with_reducible repeat (first | apply Kd.R_alloc | apply Kd.R_drewN | apply Kd.R_drew)); exact HO_3.out) hb); have n1_ := Aside0.mk (Kd.R_below (by (with_reducible repeat (first | apply Kd.R_alloc | apply Kd.R_drewN | apply Kd.R_drew)); exact HO217.out) hb); have n2_ := Aside0.mk (Kd.R_lower ho33 (below_size (by repeat (first | (with_reducible first | exact HB.out | apply below_alloc | apply pw_below_drewN | apply below_drew1) | exact HB.out)))); have n3_ := Aside0.mk (below_step (by repeat (first | (with_reducible first | exact HB.out | apply below_alloc | apply pw_below_drewN | apply below_drew1) | exact HB.out)) hb); clear HO_3; clear HO217; clear HB; have HO_3 := n0_; have HO217 := n1_; have HO222 := n2_; have HB := n3_; clear n0_ n1_ n2_ n3_; clear hb ho33; obtain ⟨Ao34, co34, eo34⟩ := Kd.R_slice HO222.out; subst eo34) | (go_at_call 24; (with_reducible refine (utf16_Decode.calls kj10 _ _ y220 t223 _ ?side1 ?side2 A27.out).mono ?_); (case side1 => repeat (first | exact (Kd.R_reads' HO222.out).2.2 | (with_reducible refine Kd.C_alloc ?_ _) | (with_reducible refine Kd.C_drewN ?_ _) | (with_reducible refine Kd.C_drew ?_))); (case side2 => exact (Kd.R_reads' HO222.out).2.1); rintro e w35 ⟨v224, rfl, ho0, hb⟩; have n0_ := Aside0.mk (Kd.R_elder' (by (with_reducible repeat (first | apply Kd.R_alloc | apply Kd.R_drewN | apply Kd.R_drew)); exact HO_3.out) (Kd.R_base ho0) hb); have n1_ := Aside0.mk (Kd.R_below (by (with_reducible repeat (first | apply Kd.R_alloc | apply Kd.R_drewN | apply Kd.R_drew)); exact HO217.out) hb); have n2_ := Aside0.mk (Kd.R_below (by (with_reducible repeat (first | apply Kd.R_alloc | apply Kd.R_drewN | apply Kd.R_drew)); exact HO222.out) hb); have n3_ := Aside0.mk (Kd.R_lower (Kd.R_new' ho0 (Kd.R_lt (by (with_reducible repeat (first | apply Kd.R_alloc | apply Kd.R_drewN | apply Kd.R_drew)); exact HO_3.out))) (below_size (by repeat (first | (with_reducible first | exact HB.out | apply below_alloc | apply pw_below_drewN | apply below_drew1) | exact HB.out)))); have n4_ := Aside0.mk (below_step (by repeat (first | (with_reducible first | exact HB.out | apply below_alloc | apply pw_below_drewN | apply below_drew1) | exact HB.out)) hb); clear HO_3; clear HO217; clear HO222; clear HB; have HO_3 := n0_; have HO217 := n1_; have HO222 := n2_; have HO225 := n3_; have HB := n4_; clear n0_ n1_ n2_ n3_ n4_; (try clear hb); (try clear hb2); (try clear hk); (try clear hi); (try clear ho0); obtain ⟨Ao36, co36, eo36⟩ := Kd.R_slice HO225.out; subst eo36; have p226 : 0 ≤ (0 : Int) := (by omega); have q226 : 0 < (t223.length : Int) := of_decide_eq_true (by first | (with_reducible assumption) | assumption); obtain ⟨ad226, e226, hx226_0⟩ := Kd.at_int (Kd.R_reads' HO225.out).2.2 0 p226 q226; cases e226; have qi226 : (0 < t223.length) = True := eq_true (by omega); (try rw [show ((0 : Int)).toNat = 0 from rfl] at hx226_0); (try rw [Addr.add_zero'] at hx226_0); replace p226 := eq_true p226; replace q226 := eq_true q226) | ((with_reducible refine gate_builtin (b := .append) (xs := #[.tmp 63, .tmp 65]) rfl ?_); at_builtin; refine Kd.R_append (Kd.int .i32) (w0 := w) w.heap.size rfl (.tmp 63) (.tmp 65) 41 21 (.int .i32 0) 4 rfl Tryd.underlying41 info21 rfl (by decide) (by omega) u3 x3_1 (rd t223 0) [.int .i32 (rd t223 0)] (fun k_ => some k_ ≠ (.slice (some ad226) t223.length co36 : Value).ownBlock) (fun _ => False) rfl rfl ?aP (fun _ hk => hk.elim) ?aF ?aO ?aB ?aS ?aL ?_; (case aP => exact rfl); (case aB => exact (by repeat (first | (with_reducible first | exact HB.out | apply below_alloc | apply pw_below_drewN | apply below_drew1) | exact HB.out))); (case aF => exact (fun k_ hk => Kd.fresh' (Kd.R_lt (by (with_reducible repeat (first | apply Kd.R_alloc | apply Kd.R_drewN | apply Kd.R_drew)); exact HO225.out)) k_ hk)); (case aO => exact (by (with_reducible repeat (first | apply Kd.R_alloc | apply Kd.R_drewN | apply Kd.R_drew)); exact Kd.R_mono HO_3.out (fun _ hk => hk.2))); (case aS => exact (below_size (by repeat (first | (with_reducible first | exact HB.out | apply below_alloc | apply pw_below_drewN | apply below_drew1) | exact HB.out)))); (case aL => have := LMc29.out; omega); intro v228 w37 ho hb hg hat; rw [← Ny227.out] at ho; have n0_ := Aside0.mk (Kd.R_over' (by (with_reducible repeat (first | apply Kd.R_alloc | apply Kd.R_drewN | apply Kd.R_drew)); exact HO217.out) (Kd.R_typed (by (with_reducible repeat (first | apply Kd.R_alloc | apply Kd.R_drewN | apply Kd.R_drew)); exact HO_3.out)) (by decide) hg); have n1_ := Aside0.mk (Kd.R_over' (by (with_reducible repeat (first | apply Kd.R_alloc | apply Kd.R_drewN | apply Kd.R_drew)); exact HO222.out) (Kd.R_typed (by (with_reducible repeat (first | apply Kd.R_alloc | apply Kd.R_drewN | apply Kd.R_drew)); exact HO_3.out)) (by decide) hg); have n2_ := Aside0.mk (Kd.R_after (ok := (fun _ => True)) (by (with_reducible repeat (first | apply Kd.R_alloc | apply Kd.R_drewN | apply Kd.R_drew)); exact HO225.out) hg hat); have n3_ := Aside0.mk (hb); have n4_ := Aside0.mk (ho); clear HO217; clear HO222; clear HO225; clear HB; clear HO_3; have HO217 := n0_; have HO222 := n1_; have HO225 := n2_; have HB := n3_; have HO229 := n4_; clear n0_ n1_ n2_ n3_ n4_; clear ho hb hg hat)); try go_wp2_with (first | (go_at_call 23; (with_reducible refine (otto_zzHex.calls kj10 (a0.extract ((ji19) : Int).toNat ((wrap64 (x5_1 + 6)) : Int).toNat) t214 true _ A23.out).mono ?_); rintro e w30 ⟨v216, rfl, ho0, hb⟩; have n0_ := Aside0.mk (Kd.R_below (by (with_reducible repeat (first | apply Kd.R_alloc | apply Kd.R_drewN | apply Kd.R_drew)); exact HO_3.out) hb); have n1_ := Aside0.mk (Kd.R_lower ho0 (below_size (by repeat (first | (with_reducible first | exact HB.out | apply below_alloc | apply pw_below_drewN | apply below_drew1) | exact HB.out)))); have n2_ := Aside0.mk (below_step (by repeat (first | (with_reducible first | exact HB.out | apply below_alloc | apply pw_below_drewN | apply below_drew1) | exact HB.out)) hb); clear HO_3; clear HB; have HO_3 := n0_; have HO217 := n1_; have HB := n2_; clear n0_ n1_ n2_; (try clear hb); (try clear hb2); (try clear hk); (try clear hi); (try clear ho0); obtain ⟨Ao31, co31, eo31⟩ := Kd.R_slice HO217.out; subst eo31; have p218 : 0 ≤ (0 : Int) := (by omega); have q218 : 0 < (t214.length : Int) := of_decide_eq_true (by first | (with_reducible assumption) | assumption); obtain ⟨ad218, e218, hx218_0⟩ := Kd.at_int (Kd.R_reads' HO217.out).2.2 0 p218 q218; cases e218; have qi218 : (0 < t214.length) = True := eq_true (by omega); (try rw [show ((0 : Int)).toNat = 0 from rfl] at hx218_0); (try rw [Addr.add_zero'] at hx218_0); replace p218 := eq_true p218; replace q218 := eq_true q218; have p219 : 0 ≤ (1 : Int) := (by omega); have q219 : 1 < (t214.length : Int) := of_decide_eq_true (by first | (with_reducible assumption) | assumption); obtain ⟨ad219, e219, hx219_0⟩ := Kd.at_int (Kd.R_reads' HO217.out).2.2 1 p219 q219; obtain rfl : ad218 = ad219 := (by injection e219); (try simp only [show (1 : Int).toNat = 1 from rfl, Nat.reduceMul, Nat.reduceEqDiff, Go.Addr.add, ↓reduceIte] at hx219_0); have qi219 : (1 < t214.length) = True := eq_true (by omega); (try rw [show ((1 : Int)).toNat = 1 from rfl] at hx219_0); replace p219 := eq_true p219; replace q219 := eq_true q219) | ((with_reducible refine gate_dst (N := 59) rfl ?_); refine Kd.R_lit (Kd.int .u16) _ 38 ?hg (N := 59) ?hd (xs := ([IntKind.u16.wrap ((IntKind.u16.wrap ((IntKind.u16.wrap (rd t214 0)) * 256)) + (IntKind.u16.wrap (rd t214 1)))] : List Int)) (inner := [.int .u16 (IntKind.u16.wrap ((IntKind.u16.wrap ((IntKind.u16.wrap (rd t214 0)) * 256)) + (IntKind.u16.wrap (rd t214 1))))]) (ok := fun _ => True) (okp := fun _ => True) ?hr ?hp (fun _ hk => hk) trivial (Below.refl _ _) (Nat.le_refl _) (by simp) ?_; (case hd => rfl); (case hg => rfl); (case hr => first | (go_simp; done) | (go_simp; rfl)); (case hp => exact (Reps.one (show Kd.M (Kd.int .u16) _ _ _ (IntKind.u16.wrap ((IntKind.u16.wrap ((IntKind.u16.wrap (rd t214 0)) * 256)) + (IntKind.u16.wrap (rd t214 1)))) [.int .u16 (IntKind.u16.wrap ((IntKind.u16.wrap ((IntKind.u16.wrap (rd t214 0)) * 256)) + (IntKind.u16.wrap (rd t214 1))))] from rfl) (Reps.none _ _))); intro v221 w32 ho33 hb hg_ hnew_; clear hg_ hnew_; (first | rw [← Ny220.out] at ho33 | (simp only [Int.reduceToNat] at ho33; rw [← Ny220.out] at ho33)); have n0_ := Aside0.mk (Kd.R_below (by (with_reducible repeat (first | apply Kd.R_alloc | apply Kd.R_drewN | apply Kd.R_drew)); exact HO_3.out) hb); have n1_ := Aside0.mk (Kd.R_below (by (with_reducible repeat (first | apply Kd.R_alloc | apply Kd.R_drewN | apply Kd.R_drew)); exact HO217.out) hb); have n2_ := Aside0.mk (Kd.R_lower ho33 (below_size (by repeat (first | (with_reducible first | exact HB.out | apply below_alloc | apply pw_below_drewN | apply below_drew1) | exact HB.out)))); have n3_ := Aside0.mk (below_step (by repeat (first | (with_reducible first | exact HB.out | apply below_alloc | apply pw_below_drewN | apply below_drew1) | exact HB.out)) hb); clear HO_3; clear HO217; clear HB; have HO_3 := n0_; have HO217 := n1_; have HO222 := n2_; have HB := n3_; clear n0_ n1_ n2_ n3_; clear hb ho33; obtain ⟨Ao34, co34, eo34⟩ := Kd.R_slice HO222.out; subst eo34) | (go_at_call 24; (with_reducible refine (utf16_Decode.calls kj10 _ _ y220 t223 _ ?side1 ?side2 A27.out).mono ?_); (case side1 => repeat (first | exact (Kd.R_reads' HO222.out).2.2 | (with_reducible refine Kd.C_alloc ?_ _) | (with_reducible refine Kd.C_drewN ?_ _) | (with_reducible refine Kd.C_drew ?_))); (case side2 => exact (Kd.R_reads' HO222.out).2.1); rintro e w35 ⟨v224, rfl, ho0, hb⟩; have n0_ := Aside0.mk (Kd.R_elder' (by (with_reducible repeat (first | apply Kd.R_alloc | apply Kd.R_drewN | apply Kd.R_drew)); exact HO_3.out) (Kd.R_base ho0) hb); have n1_ := Aside0.mk (Kd.R_below (by (with_reducible repeat (first | apply Kd.R_alloc | apply Kd.R_drewN | apply Kd.R_drew)); exact HO217.out) hb); have n2_ := Aside0.mk (Kd.R_below (by (with_reducible repeat (first | apply Kd.R_alloc | apply Kd.R_drewN | apply Kd.R_drew)); exact HO222.out) hb); have n3_ := Aside0.mk (Kd.R_lower (Kd.R_new' ho0 (Kd.R_lt (by (with_reducible repeat (first | apply Kd.R_alloc | apply Kd.R_drewN | apply Kd.R_drew)); exact HO_3.out))) (below_size (by repeat (first | (with_reducible first | exact HB.out | apply below_alloc | apply pw_below_drewN | apply below_drew1) | exact HB.out)))); have n4_ := Aside0.mk (below_step (by repeat (first | (with_reducible first | exact HB.out | apply below_alloc | apply pw_below_drewN | apply below_drew1) | exact HB.out)) hb); clear HO_3; clear HO217; clear HO222; clear HB; have HO_3 := n0_; have HO217 := n1_; have HO222 := n2_; have HO225 := n3_; have HB := n4_; clear n0_ n1_ n2_ n3_ n4_; (try clear hb); (try clear hb2); (try clear hk); (try clear hi); (try clear ho0); obtain ⟨Ao36, co36, eo36⟩ := Kd.R_slice HO225.out; subst eo36; have p226 : 0 ≤ (0 : Int) := (by omega); have q226 : 0 < (t223.length : Int) := of_decide_eq_true (by first | (with_reducible assumption) | assumption); obtain ⟨ad226, e226, hx226_0⟩ := Kd.at_int (Kd.R_reads' HO225.out).2.2 0 p226 q226; cases e226; have qi226 : (0 < t223.length) = True := eq_true (by omega); (try rw [show ((0 : Int)).toNat = 0 from rfl] at hx226_0); (try rw [Addr.add_zero'] at hx226_0); replace p226 := eq_true p226; replace q226 := eq_true q226) | ((with_reducible refine gate_builtin (b := .append) (xs := #[.tmp 63, .tmp 65]) rfl ?_); at_builtin; refine Kd.R_append (Kd.int .i32) (w0 := w) w.heap.size rfl (.tmp 63) (.tmp 65) 41 21 (.int .i32 0) 4 rfl Tryd.underlying41 info21 rfl (by decide) (by omega) u3 x3_1 (rd t223 0) [.int .i32 (rd t223 0)] (fun k_ => some k_ ≠ (.slice (some ad226) t223.length co36 : Value).ownBlock) (fun _ => False) rfl rfl ?aP (fun _ hk => hk.elim) ?aF ?aO ?aB ?aS ?aL ?_; (case aP => exact rfl); (case aB => exact (by repeat (first | (with_reducible first | exact HB.out | apply below_alloc | apply pw_below_drewN | apply below_drew1) | exact HB.out))); (case aF => exact (fun k_ hk => Kd.fresh' (Kd.R_lt (by (with_reducible repeat (first | apply Kd.R_alloc | apply Kd.R_drewN | apply Kd.R_drew)); exact HO225.out)) k_ hk)); (case aO => exact (by (with_reducible repeat (first | apply Kd.R_alloc | apply Kd.R_drewN | apply Kd.R_drew)); exact Kd.R_mono HO_3.out (fun _ hk => hk.2))); (case aS => exact (below_size (by repeat (first | (with_reducible first | exact HB.out | apply below_alloc | apply pw_below_drewN | apply below_drew1) | exact HB.out)))); (case aL => have := LMc29.out; omega); intro v228 w37 ho hb hg hat; rw [← Ny227.out] at ho; have n0_ := Aside0.mk (Kd.R_over' (by (with_reducible repeat (first | apply Kd.R_alloc | apply Kd.R_drewN | apply Kd.R_drew)); exact HO217.out) (Kd.R_typed (by (with_reducible repeat (first | apply Kd.R_alloc | apply Kd.R_drewN | apply Kd.R_drew)); exact HO_3.out)) (by decide) hg); have n1_ := Aside0.mk (Kd.R_over' (by (with_reducible repeat (first | apply Kd.R_alloc | apply Kd.R_drewN | apply Kd.R_drew)); exact HO222.out) (Kd.R_typed (by (with_reducible repeat (first | apply Kd.R_alloc | apply Kd.R_drewN | apply Kd.R_drew)); exact HO_3.out)) (by decide) hg); have n2_ := Aside0.mk (Kd.R_after (ok := (fun _ => True)) (by (with_reducible repeat (first | apply Kd.R_alloc | apply Kd.R_drewN | apply Kd.R_drew)); exact HO225.out) hg hat); have n3_ := Aside0.mk (hb); have n4_ := Aside0.mk (ho); clear HO217; clear HO222; clear HO225; clear HB; clear HO_3; have HO217 := n0_; have HO222 := n1_; have HO225 := n2_; have HB := n3_; have HO229 := n4_; clear n0_ n1_ n2_ n3_ n4_; clear ho hb hg hat)))
                                          go_roundg kj10
                                          case measure => have := HK1.out; have := HJ10.out; omega
                                          case rel => exact ⟨(y227), (wrap64 (x5_1 + 6)), (by first | rfl | (simp; done) | (simp [*]; done)), H', ⟨by have := HK1.out; have := HJ10.out; omega⟩, ⟨by (with_reducible repeat (first | apply Kd.R_alloc | apply Kd.R_drewN | apply Kd.R_drew)); exact Kd.R_mono HO229.out (fun _ hk => trivial)⟩, ⟨by repeat (first | (with_reducible first | exact HB.out | apply below_alloc | apply pw_below_drewN | apply below_drew1) | exact HB.out)⟩⟩
                                        · rw [if_neg c29] at H
                                          exact absurd H (by simp)
                                      · rw [if_neg c28] at H
                                        exact absurd H (by simp)
                                    · rw [if_neg c26] at H
                                      exact absurd H (by simp)
                                  · rw [if_neg c25] at H
                                    exact absurd H (by simp)
                                · replace c24 := Bool.eq_false_iff.mpr c24
                                  subst c24
                                  have H1 : (otto_builtinUnescape.j2 kj10 a0 x3_1 (a0.size : Int) x5_1) = some r := by rw [if_neg (show ¬ (false = true) by decide)] at H; exact H
                                  clear H
                                  have H := H1
                                  clear H1
                                  have H' := Aside0.mk H
                                  clear H
                                  go_wp2_with (first | (go_at_call 23; (with_reducible refine (otto_zzHex.calls kj10 (a0.extract ((ji19) : Int).toNat ((wrap64 (x5_1 + 6)) : Int).toNat) t214 false _ A23.out).mono ?_); rintro e w38 ⟨v216, rfl, ho0, hb⟩; have n0_ := Aside0.mk (Kd.R_below (by (with_reducible repeat (first | apply Kd.R_alloc | apply Kd.R_drewN | apply Kd.R_drew)); exact HO_3.out) hb); have n1_ := Aside0.mk (Kd.R_lower ho0 (below_size (by repeat (first | (with_reducible first | exact HB.out | apply below_alloc | apply pw_below_drewN | apply below_drew1) | exact HB.out)))); have n2_ := Aside0.mk (below_step (by repeat (first | (with_reducible first | exact HB.out | apply below_alloc | apply pw_below_drewN | apply below_drew1) | exact HB.out)) hb); clear HO_3; clear HB; have HO_3 := n0_; have HO217 := n1_; have HB := n2_; clear n0_ n1_ n2_; (try clear hb); (try clear hb2); (try clear hk); (try clear hi); (try clear ho0)))
                                  repeat (go_quiet (first | (go_at_call 23; (with_reducible refine (otto_zzHex.calls kj10 (a0.extract ((ji19) : Int).toNat ((wrap64 (x5_1 + 6)) : Int).toNat) t214 false _ A23.out).mono ?_); rintro e w38 ⟨v216, rfl, ho0, hb⟩; have n0_ := Aside0.mk (Kd.R_below (by (with_reducible repeat (first | apply Kd.R_alloc | apply Kd.R_drewN | apply Kd.R_drew)); exact HO_3.out) hb); have n1_ := Aside0.mk (Kd.R_lower ho0 (below_size (by repeat (first | (with_reducible first | exact HB.out | apply below_alloc | apply pw_below_drewN | apply below_drew1) | exact HB.out)))); have n2_ := Aside0.mk (below_step (by repeat (first | (with_reducible first | exact HB.out | apply below_alloc | apply pw_below_drewN | apply below_drew1) | exact HB.out)) hb); clear HO_3; clear HB; have HO_3 := n0_; have HO217 := n1_; have HB := n2_; clear n0_ n1_ n2_; (try clear hb); (try clear hb2); (try clear hk); (try clear hi); (try clear ho0))); try go_wp2_with (first | (go_at_call 23; (with_reducible refine (otto_zzHex.calls kj10 (a0.extract ((ji19) : Int).toNat ((wrap64 (x5_1 + 6)) : Int).toNat) t214 false _ A23.out).mono ?_); rintro e w38 ⟨v216, rfl, ho0, hb⟩; have n0_ := Aside0.mk (Kd.R_below (by (with_reducible repeat (first | apply Kd.R_alloc | apply Kd.R_drewN | apply Kd.R_drew)); exact HO_3.out) hb); have n1_ := Aside0.mk (Kd.R_lower ho0 (below_size (by repeat (first | (with_reducible first | exact HB.out | apply below_alloc | apply pw_below_drewN | apply below_drew1) | exact HB.out)))); have n2_ := Aside0.mk (below_step (by repeat (first | (with_reducible first | exact HB.out | apply below_alloc | apply pw_below_drewN | apply below_drew1) | exact HB.out)) hb); clear HO_3; clear HB; have HO_3 := n0_; have HO217 := n1_; have HB := n2_; clear n0_ n1_ n2_; (try clear hb); (try clear hb2); (try clear hk); (try clear hi); (try clear ho0))))
                                  go_meet
                                  case rel => exact ⟨_, (x3_1), (x5_1), (by first | rfl | (simp; done) | (simp [*]; done)), H', ⟨by have := HK1.out; have := HJ10.out; first | omega | exact Nat.le_refl _⟩, ⟨by (with_reducible repeat (first | apply Kd.R_alloc | apply Kd.R_drewN | apply Kd.R_drew)); exact HO_3.out⟩, ⟨by repeat (first | (with_reducible first | exact HB.out | apply below_alloc | apply pw_below_drewN | apply below_drew1) | exact HB.out)⟩⟩
                              · rw [if_neg c22] at H
                                exact absurd H (by simp)
                            · rw [if_neg c21] at H
                              exact absurd H (by simp)
                          · rw [if_neg c20] at H
                            exact absurd H (by simp)
                        · replace c18 := Bool.eq_false_iff.mpr c18
                          subst c18
                          have H1 : (otto_builtinUnescape.j2 kj10 a0 x3_1 (a0.size : Int) x5_1) = some r := by rw [if_neg (show ¬ (false = true) by decide)] at H; exact H
                          clear H
                          have H := H1
                          clear H1
                          have H' := Aside0.mk H
                          clear H
                          go_wp2
                          repeat (go_quiet (fail); try go_wp2)
                          go_meet
                          case rel => exact ⟨_, (x3_1), (x5_1), (by first | rfl | (simp; done) | (simp [*]; done)), H', ⟨by have := HK1.out; have := HJ10.out; first | omega | exact Nat.le_refl _⟩, ⟨by (with_reducible repeat (first | apply Kd.R_alloc | apply Kd.R_drewN | apply Kd.R_drew)); exact HO_3.out⟩, ⟨by repeat (first | (with_reducible first | exact HB.out | apply below_alloc | apply pw_below_drewN | apply below_drew1) | exact HB.out)⟩⟩
                      case rest =>
                        clear HC17
                        try clear c1
                        try clear p1
                        try clear q1
                        try clear hx1
                        try clear c2
                        try clear c2b0
                        try clear c2b1
                        try clear p2
                        try clear q2
                        try clear hx2
                        try clear qi2
                        try clear c3
                        try clear c3b0
                        try clear c3b1
                        try clear c6
                        try clear c6b0
                        try clear p6
                        try clear c7
                        try clear c7b0
                        try clear c8
                        try clear c8b0
                        try clear p9
                        try clear q9
                        try clear hx9
                        try clear c10
                        try clear c10b0
                        try clear c10b1
                        try clear c12
                        try clear c12b0
                        try clear c14
                        try clear c14b0
                        try clear c15
                        try clear c15b0
                        try clear p16
                        try clear q16
                        try clear hx16
                        try clear c18
                        try clear c19
                        try clear c20
                        try clear c20b0
                        try clear c20b1
                        try clear c21
                        try clear c21b0
                        try clear c21b1
                        try clear p21
                        try clear q21
                        try clear hx21
                        try clear qi21
                        try clear c22
                        try clear c22b0
                        try clear c22b1
                        try clear p22
                        try clear q22
                        try clear hx22
                        try clear qi22
                        try clear c24
                        try clear c25
                        try clear c25b0
                        try clear c25b1
                        try clear c26
                        try clear c26b0
                        try clear c26b1
                        try clear c28
                        try clear c28b0
                        try clear c28b1
                        try clear c29
                        try clear hx218_0
                        try clear hx219_0
                        try clear hx226_0
                        try clear p1
                        try clear p16
                        try clear p2
                        try clear p218
                        try clear p219
                        try clear p226
                        try clear p6
                        try clear p9
                        try clear q1
                        try clear q16
                        try clear q218
                        try clear q219
                        try clear q226
                        try clear q9
                        obtain ⟨kq, x3_16, x5_16, rfl, HA, HJ16, HO_3, HB⟩ := hcut
                        cases kq with
                        | zero => exact absurd HA.out (by simp [otto_builtinUnescape.j2])
                        | succ kj16 =>
                          have H := HA.out
                          clear HA
                          simp only [otto_builtinUnescape.j2] at H
                          by_cases c39 : x5_16 ≤ (wrap64 ((a0.size : Int) - 3))
                          · rw [if_pos c39] at H
                            have c39b0 : decide (x5_16 ≤ (wrap64 ((a0.size : Int) - 3))) = true := decide_eq_true c39
                            clear c39
                            obtain ⟨ji40, hji40⟩ : ∃ j_ : Int, (wrap64 (x5_16 + 1)) = j_ := ⟨_, rfl⟩
                            replace H : (if 0 ≤ (ji40) then (if (ji40) ≤ (wrap64 (x5_16 + 3)) then (if (wrap64 (x5_16 + 3)) ≤ (a0.size : Int) then ((otto_zzHex.f kj16 (a0.extract ((ji40) : Int).toNat ((wrap64 (x5_16 + 3)) : Int).toNat)).bind fun bt230 => (if bt230.2 = true then (if 0 < (bt230.1.length : Int) then ((utf16_Decode.f kj16 (([IntKind.u16.wrap (rd bt230.1 0)] : List Int))).bind fun t238 => (if 0 < (t238.length : Int) then (if x3_16.length < 35184372088832 then (otto_builtinUnescape.l0 kj16 a0 (x3_16 ++ [rd t238 0]) (a0.size : Int) (wrap64 (x5_16 + 3))) else (none)) else (none))) else (none)) else (if 0 ≤ x5_16 then (if x5_16 < (a0.size : Int) then (if x3_16.length < 35184372088832 then (otto_builtinUnescape.l0 kj16 a0 (x3_16 ++ [wrap32 (bt a0 x5_16)]) (a0.size : Int) ji40) else (none)) else (none)) else (none)))) else (none)) else (none)) else (none)) = some r := by first | (rw [hji40] at H; exact H) | (simp only [hji40] at H ⊢; exact H)
                            have hji40w : (IntKind.i64.wrap (x5_16 + 1)) = ji40 := (i64_w _).trans hji40
                            by_cases c41 : 0 ≤ (ji40)
                            · rw [if_pos c41] at H
                              have c41b0 := eq_true c41
                              have c41b1 : decide (0 ≤ (ji40)) = true := decide_eq_true c41
                              clear c41
                              by_cases c42 : (ji40) ≤ (wrap64 (x5_16 + 3))
                              · rw [if_pos c42] at H
                                have c42b0 := eq_true c42
                                have c42b1 : decide ((ji40) ≤ (wrap64 (x5_16 + 3))) = true := decide_eq_true c42
                                by_cases c43 : (wrap64 (x5_16 + 3)) ≤ (a0.size : Int)
                                · rw [if_pos c43] at H
                                  have c43b0 := eq_true c43
                                  have c43b1 : decide ((wrap64 (x5_16 + 3)) ≤ (a0.size : Int)) = true := decide_eq_true c43
                                  replace H := Option.bind_eq_some_iff.mp H
                                  obtain ⟨⟨t230, t231⟩, A440, H⟩ := H
                                  replace H : (if t231 = true then (if 0 < (t230.length : Int) then ((utf16_Decode.f kj16 (([IntKind.u16.wrap (rd t230 0)] : List Int))).bind fun t238 => (if 0 < (t238.length : Int) then (if x3_16.length < 35184372088832 then (otto_builtinUnescape.l0 kj16 a0 (x3_16 ++ [rd t238 0]) (a0.size : Int) (wrap64 (x5_16 + 3))) else (none)) else (none))) else (none)) else (if 0 ≤ x5_16 then (if x5_16 < (a0.size : Int) then (if x3_16.length < 35184372088832 then (otto_builtinUnescape.l0 kj16 a0 (x3_16 ++ [wrap32 (bt a0 x5_16)]) (a0.size : Int) ji40) else (none)) else (none)) else (none))) = some r := H
                                  have A44 := Aside0.mk A440
                                  clear A440
                                  by_cases c45 : t231 = true
                                  · subst c45
                                    have H1 : (if 0 < (t230.length : Int) then ((utf16_Decode.f kj16 (([IntKind.u16.wrap (rd t230 0)] : List Int))).bind fun t238 => (if 0 < (t238.length : Int) then (if x3_16.length < 35184372088832 then (otto_builtinUnescape.l0 kj16 a0 (x3_16 ++ [rd t238 0]) (a0.size : Int) (wrap64 (x5_16 + 3))) else (none)) else (none))) else (none)) = some r := by rw [if_pos rfl] at H; exact H
                                    clear H
                                    have H := H1
                                    clear H1
                                    by_cases c46 : 0 < (t230.length : Int)
                                    · rw [if_pos c46] at H
                                      have c46b0 : decide (0 < (t230.length : Int)) = true := decide_eq_true c46
                                      have c46b1 : decide (0 < t230.length) = true := decide_eq_true (by omega)
                                      clear c46
                                      obtain ⟨y235, hy235⟩ : ∃ y_ : List Int, y_ = (([IntKind.u16.wrap (rd t230 0)] : List Int)) := ⟨_, rfl⟩
                                      replace H : ((utf16_Decode.f kj16 y235).bind fun t238 => (if 0 < (t238.length : Int) then (if x3_16.length < 35184372088832 then (otto_builtinUnescape.l0 kj16 a0 (x3_16 ++ [rd t238 0]) (a0.size : Int) (wrap64 (x5_16 + 3))) else (none)) else (none))) = some r := by first | (rw [hy235]; with_reducible exact H) | (have H2_ := (Option.bind_some _ _).symm.trans H; rw [hy235]; with_reducible exact H2_) | (have H2_ := (Option.bind_some _ _).symm.trans H; with_reducible exact H2_) | with_reducible exact H | (rw [hy235]; exact H) | exact H
                                      have Ny235 := Aside0.mk hy235
                                      clear hy235
                                      replace H := Option.bind_eq_some_iff.mp H
                                      obtain ⟨t238, A470, H⟩ := H
                                      replace H : (if 0 < (t238.length : Int) then (if x3_16.length < 35184372088832 then (otto_builtinUnescape.l0 kj16 a0 (x3_16 ++ [rd t238 0]) (a0.size : Int) (wrap64 (x5_16 + 3))) else (none)) else (none)) = some r := H
                                      have A47 := Aside0.mk A470
                                      clear A470
                                      by_cases c48 : 0 < (t238.length : Int)
                                      · rw [if_pos c48] at H
                                        have c48b0 : decide (0 < (t238.length : Int)) = true := decide_eq_true c48
                                        have c48b1 : decide (0 < t238.length) = true := decide_eq_true (by omega)
                                        clear c48
                                        by_cases c49 : x3_16.length < 35184372088832
                                        · rw [if_pos c49] at H
                                          have LMc49 := Aside0.mk c49
                                          clear c49
                                          obtain ⟨y242, hy242⟩ : ∃ y_ : List Int, y_ = (x3_16 ++ [rd t238 0]) := ⟨_, rfl⟩
                                          replace H : (otto_builtinUnescape.l0 kj16 a0 y242 (a0.size : Int) (wrap64 (x5_16 + 3))) = some r := by first | (rw [hy242]; with_reducible exact H) | (have H2_ := (Option.bind_some _ _).symm.trans H; rw [hy242]; with_reducible exact H2_) | (have H2_ := (Option.bind_some _ _).symm.trans H; with_reducible exact H2_) | with_reducible exact H | (rw [hy242]; exact H) | exact H
                                          have Ny242 := Aside0.mk hy242
                                          clear hy242
                                          have H' := Aside0.mk H
                                          clear H
                                          go_wp2_with (first | (go_at_call 23; (with_reducible refine (otto_zzHex.calls kj16 (a0.extract ((ji40) : Int).toNat ((wrap64 (x5_16 + 3)) : Int).toNat) t230 true _ A44.out).mono ?_); rintro e w50 ⟨v232, rfl, ho0, hb⟩; have n0_ := Aside0.mk (Kd.R_below (by (with_reducible repeat (first | apply Kd.R_alloc | apply Kd.R_drewN | apply Kd.R_drew)); exact HO_3.out) hb); have n1_ := Aside0.mk (Kd.R_lower ho0 (below_size (by repeat (first | (with_reducible first | exact HB.out | apply below_alloc | apply pw_below_drewN | apply below_drew1) | exact HB.out)))); have n2_ := Aside0.mk (below_step (by repeat (first | (with_reducible first | exact HB.out | apply below_alloc | apply pw_below_drewN | apply below_drew1) | exact HB.out)) hb); clear HO_3; clear HB; have HO_3 := n0_; have HO233 := n1_; have HB := n2_; clear n0_ n1_ n2_; (try clear hb); (try clear hb2); (try clear hk); (try clear hi); (try clear ho0); obtain ⟨Ao51, co51, eo51⟩ := Kd.R_slice HO233.out; subst eo51; have p234 : 0 ≤ (0 : Int) := (by omega); have q234 : 0 < (t230.length : Int) := of_decide_eq_true (by first | (with_reducible assumption) | assumption); obtain ⟨ad234, e234, hx234_0⟩ := Kd.at_int (Kd.R_reads' HO233.out).2.2 0 p234 q234; cases e234; have qi234 : (0 < t230.length) = True := eq_true (by omega); (try rw [show ((0 : Int)).toNat = 0 from rfl] at hx234_0); (try rw [Addr.add_zero'] at hx234_0); replace p234 := eq_true p234; replace q234 := eq_true q234) | ((with_reducible refine gate_dst (N := 89) rfl ?_); refine Kd.R_lit (Kd.int .u16) _ 38 ?hg (N := 89) ?hd (xs := ([IntKind.u16.wrap (rd t230 0)] : List Int)) (inner := [.int .u16 (IntKind.u16.wrap (rd t230 0))]) (ok := fun _ => True) (okp := fun _ => True) ?hr ?hp (fun _ hk => hk) trivial (Below.refl _ _) (Nat.le_refl _) (by simp) ?_; (case hd => rfl); (case hg => rfl); (case hr => first | (go_simp; done) | (go_simp; rfl)); (case hp => exact (Reps.one (show Kd.M (Kd.int .u16) _ _ _ (IntKind.u16.wrap (rd t230 0)) [.int .u16 (IntKind.u16.wrap (rd t230 0))] from rfl) (Reps.none _ _))); intro v236 w52 ho53 hb hg_ hnew_; clear hg_ hnew_; (first | rw [← Ny235.out] at ho53 | (simp only [Int.reduceToNat] at ho53; rw [← Ny235.out] at ho53)); have n0_ := Aside0.mk (Kd.R_below (by (with_reducible repeat (first | apply Kd.R_alloc | apply Kd.R_drewN | apply Kd.R_drew)); exact HO_3.out) hb); have n1_ := Aside0.mk (Kd.R_below (by (with_reducible repeat (first | apply Kd.R_alloc | apply Kd.R_drewN | apply Kd.R_drew)); exact HO233.out) hb); have n2_ := Aside0.mk (Kd.R_lower ho53 (below_size (by repeat (first | (with_reducible first | exact HB.out | apply below_alloc | apply pw_below_drewN | apply below_drew1) | exact HB.out)))); have n3_ := Aside0.mk (below_step (by repeat (first | (with_reducible first | exact HB.out | apply below_alloc | apply pw_below_drewN | apply below_drew1) | exact HB.out)) hb); clear HO_3; clear HO233; clear HB; have HO_3 := n0_; have HO233 := n1_; have HO237 := n2_; have HB := n3_; clear n0_ n1_ n2_ n3_; clear hb ho53; obtain ⟨Ao54, co54, eo54⟩ := Kd.R_slice HO237.out; subst eo54) | (go_at_call 24; (with_reducible refine (utf16_Decode.calls kj16 _ _ y235 t238 _ ?side1 ?side2 A47.out).mono ?_); (case side1 => repeat (first | exact (Kd.R_reads' HO237.out).2.2 | (with_reducible refine Kd.C_alloc ?_ _) | (with_reducible refine Kd.C_drewN ?_ _) | (with_reducible refine Kd.C_drew ?_))); (case side2 => exact (Kd.R_reads' HO237.out).2.1); rintro e w55 ⟨v239, rfl, ho0, hb⟩; have n0_ := Aside0.mk (Kd.R_elder' (by (with_reducible repeat (first | apply Kd.R_alloc | apply Kd.R_drewN | apply Kd.R_drew)); exact HO_3.out) (Kd.R_base ho0) hb); have n1_ := Aside0.mk (Kd.R_below (by (with_reducible repeat (first | apply Kd.R_alloc | apply Kd.R_drewN | apply Kd.R_drew)); exact HO233.out) hb); have n2_ := Aside0.mk (Kd.R_below (by (with_reducible repeat (first | apply Kd.R_alloc | apply Kd.R_drewN | apply Kd.R_drew)); exact HO237.out) hb); have n3_ := Aside0.mk (Kd.R_lower (Kd.R_new' ho0 (Kd.R_lt (by (with_reducible repeat (first | apply Kd.R_alloc | apply Kd.R_drewN | apply Kd.R_drew)); exact HO_3.out))) (below_size (by repeat (first | (with_reducible first | exact HB.out | apply below_alloc | apply pw_below_drewN | apply below_drew1) | exact HB.out)))); have n4_ := Aside0.mk (below_step (by repeat (first | (with_reducible first | exact HB.out | apply below_alloc | apply pw_below_drewN | apply below_drew1) | exact HB.out)) hb); clear HO_3; clear HO233; clear HO237; clear HB; have HO_3 := n0_; have HO233 := n1_; have HO237 := n2_; have HO240 := n3_; have HB := n4_; clear n0_ n1_ n2_ n3_ n4_; (try clear hb); (try clear hb2); (try clear hk); (try clear hi); (try clear ho0); obtain ⟨Ao56, co56, eo56⟩ := Kd.R_slice HO240.out; subst eo56; have p241 : 0 ≤ (0 : Int) := (by omega); have q241 : 0 < (t238.length : Int) := of_decide_eq_true (by first | (with_reducible assumption) | assumption); obtain ⟨ad241, e241, hx241_0⟩ := Kd.at_int (Kd.R_reads' HO240.out).2.2 0 p241 q241; cases e241; have qi241 : (0 < t238.length) = True := eq_true (by omega); (try rw [show ((0 : Int)).toNat = 0 from rfl] at hx241_0); (try rw [Addr.add_zero'] at hx241_0); replace p241 := eq_true p241; replace q241 := eq_true q241) | ((with_reducible refine gate_builtin (b := .append) (xs := #[.tmp 93, .tmp 95]) rfl ?_); at_builtin; refine Kd.R_append (Kd.int .i32) (w0 := w) w.heap.size rfl (.tmp 93) (.tmp 95) 41 21 (.int .i32 0) 4 rfl Tryd.underlying41 info21 rfl (by decide) (by omega) u3 x3_16 (rd t238 0) [.int .i32 (rd t238 0)] (fun k_ => some k_ ≠ (.slice (some ad241) t238.length co56 : Value).ownBlock) (fun _ => False) rfl rfl ?aP (fun _ hk => hk.elim) ?aF ?aO ?aB ?aS ?aL ?_; (case aP => exact rfl); (case aB => exact (by repeat (first | (with_reducible first | exact HB.out | apply below_alloc | apply pw_below_drewN | apply below_drew1) | exact HB.out))); (case aF => exact (fun k_ hk => Kd.fresh' (Kd.R_lt (by (with_reducible repeat (first | apply Kd.R_alloc | apply Kd.R_drewN | apply Kd.R_drew)); exact HO240.out)) k_ hk)); (case aO => exact (by (with_reducible repeat (first | apply Kd.R_alloc | apply Kd.R_drewN | apply Kd.R_drew)); exact Kd.R_mono HO_3.out (fun _ hk => hk.2))); (case aS => exact (below_size (by repeat (first | (with_reducible first | exact HB.out | apply below_alloc | apply pw_below_drewN | apply below_drew1) | exact HB.out)))); (case aL => have := LMc49.out; omega); intro v243 w57 ho hb hg hat; rw [← Ny242.out] at ho; have n0_ := Aside0.mk (Kd.R_over' (by (with_reducible repeat (first | apply Kd.R_alloc | apply Kd.R_drewN | apply Kd.R_drew)); exact HO233.out) (Kd.R_typed (by (with_reducible repeat (first | apply Kd.R_alloc | apply Kd.R_drewN | apply Kd.R_drew)); exact HO_3.out)) (by decide) hg); have n1_ := Aside0.mk (Kd.R_over' (by (with_reducible repeat (first | apply Kd.R_alloc | apply Kd.R_drewN | apply Kd.R_drew)); exact HO237.out) (Kd.R_typed (by (with_reducible repeat (first | apply Kd.R_alloc | apply Kd.R_drewN | apply Kd.R_drew)); exact HO_3.out)) (by decide) hg); have n2_ := Aside0.mk (Kd.R_after (ok := (fun _ => True)) (by (with_reducible repeat (first | apply Kd.R_alloc | apply Kd.R_drewN | apply Kd.R_drew)); exact HO240.out) hg hat); have n3_ := Aside0.mk (hb); have n4_ := Aside0.mk (ho); clear HO233; clear HO237; clear HO240; clear HB; clear HO_3; have HO233 := n0_; have HO237 := n1_; have HO240 := n2_; have HB := n3_; have HO244 := n4_; clear n0_ n1_ n2_ n3_ n4_; clear ho hb hg hat))
                                          repeat (go_quiet (first | (go_at_call 23; (with_reducible refine (otto_zzHex.calls kj16 (a0.extract ((ji40) : Int).toNat ((wrap64 (x5_16 + 3)) : Int).toNat) t230 true _ A44.out).mono ?_); rintro e w50 ⟨v232, rfl, ho0, hb⟩; have n0_ := Aside0.mk (Kd.R_below (by (with_reducible repeat (first | apply Kd.R_alloc | apply Kd.R_drewN | apply Kd.R_drew)); exact HO_3.out) hb); have n1_ := Aside0.mk (Kd.R_lower ho0 (below_size (by repeat (first | (with_reducible first | exact HB.out | apply below_alloc | apply pw_below_drewN | apply below_drew1) | exact HB.out)))); have n2_ := Aside0.mk (below_step (by repeat (first | (with_reducible first | exact HB.out | apply below_alloc | apply pw_below_drewN | apply below_drew1) | exact HB.out)) hb); clear HO_3; clear HB; have HO_3 := n0_; have HO233 := n1_; have HB := n2_; clear n0_ n1_ n2_; (try clear hb); (try clear hb2); (try clear hk); (try clear hi); (try clear ho0); obtain ⟨Ao51, co51, eo51⟩ := Kd.R_slice HO233.out; subst eo51; have p234 : 0 ≤ (0 : Int) := (by omega); have q234 : 0 < (t230.length : Int) := of_decide_eq_true (by first | (with_reducible assumption) | assumption); obtain ⟨ad234, e234, hx234_0⟩ := Kd.at_int (Kd.R_reads' HO233.out).2.2 0 p234 q234; cases e234; have qi234 : (0 < t230.length) = True := eq_true (by omega); (try rw [show ((0 : Int)).toNat = 0 from rfl] at hx234_0); (try rw [Addr.add_zero'] at hx234_0); replace p234 := eq_true p234; replace q234 := eq_true q234) | ((with_reducible refine gate_dst (N := 89) rfl ?_); refine Kd.R_lit (Kd.int .u16) _ 38 ?hg (N := 89) ?hd (xs := ([IntKind.u16.wrap (rd t230 0)] : List Int)) (inner := [.int .u16 (IntKind.u16.wrap (rd t230 0))]) (ok := fun _ => True) (okp := fun _ => True) ?hr ?hp (fun _ hk => hk) trivial (Below.refl _ _) (Nat.le_refl _) (by simp) ?_; (case hd => rfl); (case hg => rfl); (case hr => first | (go_simp; done) | (go_simp; rfl)); (case hp => exact (Reps.one (show Kd.M (Kd.int .u16) _ _ _ (IntKind.u16.wrap (rd t230 0)) [.int .u16 (IntKind.u16.wrap (rd t230 0))] from rfl) (Reps.none _ _))); intro v236 w52 ho53 hb hg_ hnew_; clear hg_ hnew_; (first | rw [← Ny235.out] at ho53 | (simp only [Int.reduceToNat] at ho53; rw [← Ny235.out] at ho53)); have n0_ := Aside0.mk (Kd.R_below (by (with_reducible repeat (first | apply Kd.R_alloc | apply Kd.R_drewN | apply Kd.R_drew)); exact HO_3.out) hb); have n1_ := Aside0.mk (Kd.R_below (by (with_reducible repeat (first | apply Kd.R_alloc | apply Kd.R_drewN | apply Kd.R_drew)); exact HO233.out) hb); have n2_ := Aside0.mk (Kd.R_lower ho53 (below_size (by repeat (first | (with_reducible first | exact HB.out | apply below_alloc | apply pw_below_drewN | apply below_drew1) | exact HB.out)))); have n3_ := Aside0.mk (below_step (by repeat (first | (with_reducible first | exact HB.out | apply below_alloc | apply pw_below_drewN | apply below_drew1) | exact HB.out)) hb); clear HO_3; clear HO233; clear HB; have HO_3 := n0_; have HO233 := n1_; have HO237 := n2_; have HB := n3_; clear n0_ n1_ n2_ n3_; clear hb ho53; obtain ⟨Ao54, co54, eo54⟩ := Kd.R_slice HO237.out; subst eo54) | (go_at_call 24; (with_reducible refine (utf16_Decode.calls kj16 _ _ y235 t238 _ ?side1 ?side2 A47.out).mono ?_); (case side1 => repeat (first | exact (Kd.R_reads' HO237.out).2.2 | (with_reducible refine Kd.C_alloc ?_ _) | (with_reducible refine Kd.C_drewN ?_ _) | (with_reducible refine Kd.C_drew ?_))); (case side2 => exact (Kd.R_reads' HO237.out).2.1); rintro e w55 ⟨v239, rfl, ho0, hb⟩; have n0_ := Aside0.mk (Kd.R_elder' (by (with_reducible repeat (first | apply Kd.R_alloc | apply Kd.R_drewN | apply Kd.R_drew)); exact HO_3.out) (Kd.R_base ho0) hb); have n1_ := Aside0.mk (Kd.R_below (by (with_reducible repeat (first | apply Kd.R_alloc | apply Kd.R_drewN | apply Kd.R_drew)); exact HO233.out) hb); have n2_ := Aside0.mk (Kd.R_below (by (with_reducible repeat (first | apply Kd.R_alloc | apply Kd.R_drewN | apply Kd.R_drew)); exact HO237.out) hb); have n3_ := Aside0.mk (Kd.R_lower (Kd.R_new' ho0 (Kd.R_lt (by (with_reducible repeat (first | apply Kd.R_alloc | apply Kd.R_drewN | apply Kd.R_drew)); exact HO_3.out))) (below_size (by repeat (first | (with_reducible first | exact HB.out | apply below_alloc | apply pw_below_drewN | apply below_drew1) | exact HB.out)))); have n4_ := Aside0.mk (below_step (by repeat (first | (with_reducible first | exact HB.out | apply below_alloc | apply pw_below_drewN | apply below_drew1) | exact HB.out)) hb); clear HO_3; clear HO233; clear HO237; clear HB; have HO_3 := n0_; have HO233 := n1_; have HO237 := n2_; have HO240 := n3_; have HB := n4_; clear n0_ n1_ n2_ n3_ n4_; (try clear hb); (try clear hb2); (try clear hk); (try clear hi); (try clear ho0); obtain ⟨Ao56, co56, eo56⟩ := Kd.R_slice HO240.out; subst eo56; have p241 : 0 ≤ (0 : Int) := (by omega); have q241 : 0 < (t238.length : Int) := of_decide_eq_true (by first | (with_reducible assumption) | assumption); obtain ⟨ad241, e241, hx241_0⟩ := Kd.at_int (Kd.R_reads' HO240.out).2.2 0 p241 q241; cases e241; have qi241 : (0 < t238.length) = True := eq_true (by omega); (try rw [show ((0 : Int)).toNat = 0 from rfl] at hx241_0); (try rw [Addr.add_zero'] at hx241_0); replace p241 := eq_true p241; replace q241 := eq_true q241) | ((with_reducible refine gate_builtin (b := .append) (xs := #[.tmp 93, .tmp 95]) rfl ?_); at_builtin; refine Kd.R_append (Kd.int .i32) (w0 := w) w.heap.size rfl (.tmp 93) (.tmp 95) 41 21 (.int .i32 0) 4 rfl Tryd.underlying41 info21 rfl (by decide) (by omega) u3 x3_16 (rd t238 0) [.int .i32 (rd t238 0)] (fun k_ => some k_ ≠ (.slice (some ad241) t238.length co56 : Value).ownBlock) (fun _ => False) rfl rfl ?aP (fun _ hk => hk.elim) ?aF ?aO ?aB ?aS ?aL ?_; (case aP => exact rfl); (case aB => exact (by repeat (first | (with_reducible first | exact HB.out | apply below_alloc | apply pw_below_drewN | apply below_drew1) | exact HB.out))); (case aF => exact (fun k_ hk => Kd.fresh' (Kd.R_lt (by (with_reducible repeat (first | apply Kd.R_alloc | apply Kd.R_drewN | apply Kd.R_drew)); exact HO240.out)) k_ hk)); (case aO => exact (by (with_reducible repeat (first | apply Kd.R_alloc | apply Kd.R_drewN | apply Kd.R_drew)); exact Kd.R_mono HO_3.out (fun _ hk => hk.2))); (case aS => exact (below_size (by repeat (first | (with_reducible first | exact HB.out | apply below_alloc | apply pw_below_drewN | apply below_drew1) | exact HB.out)))); (case aL => have := LMc49.out; omega); intro v243 w57 ho hb hg hat; rw [← Ny242.out] at ho; have n0_ := Aside0.mk (Kd.R_over' (by (with_reducible repeat (first | apply Kd.R_alloc | apply Kd.R_drewN | apply Kd.R_drew)); exact HO233.out) (Kd.R_typed (by (with_reducible repeat (first | apply Kd.R_alloc | apply Kd.R_drewN | apply Kd.R_drew)); exact HO_3.out)) (by decide) hg); have n1_ := Aside0.mk (Kd.R_over' (by (with_reducible repeat (first | apply Kd.R_alloc | apply Kd.R_drewN | apply Kd.R_drew)); exact HO237.out) (Kd.R_typed (by (with_reducible repeat (first | apply Kd.R_alloc | apply Kd.R_drewN | apply Kd.R_drew)); exact HO_3.out)) (by decide) hg); have n2_ := Aside0.mk (Kd.R_after (ok := (fun _ => True)) (by (with_reducible repeat (first | apply Kd.R_alloc | apply Kd.R_drewN | apply Kd.R_drew)); exact HO240.out) hg hat); have n3_ := Aside0.mk (hb); have n4_ := Aside0.mk (ho); clear HO233; clear HO237; clear HO240; clear HB; clear HO_3; have HO233 := n0_; have HO237 := n1_; have HO240 := n2_; have HB := n3_; have HO244 := n4_; clear n0_ n1_ n2_ n3_ n4_; clear ho hb hg hat)); try go_wp2_with (first | (go_at_call 23; (with_reducible refine (otto_zzHex.calls kj16 (a0.extract ((ji40) : Int).toNat ((wrap64 (x5_16 + 3)) : Int).toNat) t230 true _ A44.out).mono ?_); rintro e w50 ⟨v232, rfl, ho0, hb⟩; have n0_ := Aside0.mk (Kd.R_below (by (with_reducible repeat (first | apply Kd.R_alloc | apply Kd.R_drewN | apply Kd.R_drew)); exact HO_3.out) hb); have n1_ := Aside0.mk (Kd.R_lower ho0 (below_size (by repeat (first | (with_reducible first | exact HB.out | apply below_alloc | apply pw_below_drewN | apply below_drew1) | exact HB.out)))); have n2_ := Aside0.mk (below_step (by repeat (first | (with_reducible first | exact HB.out | apply below_alloc | apply pw_below_drewN | apply below_drew1) | exact HB.out)) hb); clear HO_3; clear HB; have HO_3 := n0_; have HO233 := n1_; have HB := n2_; clear n0_ n1_ n2_; (try clear hb); (try clear hb2); (try clear hk); (try clear hi); (try clear ho0); obtain ⟨Ao51, co51, eo51⟩ := Kd.R_slice HO233.out; subst eo51; have p234 : 0 ≤ (0 : Int) := (by omega); have q234 : 0 < (t230.length : Int) := of_decide_eq_true (by first | (with_reducible assumption) | assumption); obtain ⟨ad234, e234, hx234_0⟩ := Kd.at_int (Kd.R_reads' HO233.out).2.2 0 p234 q234; cases e234; have qi234 : (0 < t230.length) = True := eq_true (by omega); (try rw [show ((0 : Int)).toNat = 0 from rfl] at hx234_0); (try rw [Addr.add_zero'] at hx234_0); replace p234 := eq_true p234; replace q234 := eq_true q234) | ((with_reducible refine gate_dst (N := 89) rfl ?_); refine Kd.R_lit (Kd.int .u16) _ 38 ?hg (N := 89) ?hd (xs := ([IntKind.u16.wrap (rd t230 0)] : List Int)) (inner := [.int .u16 (IntKind.u16.wrap (rd t230 0))]) (ok := fun _ => True) (okp := fun _ => True) ?hr ?hp (fun _ hk => hk) trivial (Below.refl _ _) (Nat.le_refl _) (by simp) ?_; (case hd => rfl); (case hg => rfl); (case hr => first | (go_simp; done) | (go_simp; rfl)); (case hp => exact (Reps.one (show Kd.M (Kd.int .u16) _ _ _ (IntKind.u16.wrap (rd t230 0)) [.int .u16 (IntKind.u16.wrap (rd t230 0))] from rfl) (Reps.none _ _))); intro v236 w52 ho53 hb hg_ hnew_; clear hg_ hnew_; (first | rw [← Ny235.out] at ho53 | (simp only [Int.reduceToNat] at ho53; rw [← Ny235.out] at ho53)); have n0_ := Aside0.mk (Kd.R_below (by (with_reducible repeat (first | apply Kd.R_alloc | apply Kd.R_drewN | apply Kd.R_drew)); exact HO_3.out) hb); have n1_ := Aside0.mk (Kd.R_below (by (with_reducible repeat (first | apply Kd.R_alloc | apply Kd.R_drewN | apply Kd.R_drew)); exact HO233.out) hb); have n2_ := Aside0.mk (Kd.R_lower ho53 (below_size (by repeat (first | (with_reducible first | exact HB.out | apply below_alloc | apply pw_below_drewN | apply below_drew1) | exact HB.out)))); have n3_ := Aside0.mk (below_step (by repeat (first | (with_reducible first | exact HB.out | apply below_alloc | apply pw_below_drewN | apply below_drew1) | exact HB.out)) hb); clear HO_3; clear HO233; clear HB; have HO_3 := n0_; have HO233 := n1_; have HO237 := n2_; have HB := n3_; clear n0_ n1_ n2_ n3_; clear hb ho53; obtain ⟨Ao54, co54, eo54⟩ := Kd.R_slice HO237.out; subst eo54) | (go_at_call 24; (with_reducible refine (utf16_Decode.calls kj16 _ _ y235 t238 _ ?side1 ?side2 A47.out).mono ?_); (case side1 => repeat (first | exact (Kd.R_reads' HO237.out).2.2 | (with_reducible refine Kd.C_alloc ?_ _) | (with_reducible refine Kd.C_drewN ?_ _) | (with_reducible refine Kd.C_drew ?_))); (case side2 => exact (Kd.R_reads' HO237.out).2.1); rintro e w55 ⟨v239, rfl, ho0, hb⟩; have n0_ := Aside0.mk (Kd.R_elder' (by (with_reducible repeat (first | apply Kd.R_alloc | apply Kd.R_drewN | apply Kd.R_drew)); exact HO_3.out) (Kd.R_base ho0) hb); have n1_ := Aside0.mk (Kd.R_below (by (with_reducible repeat (first | apply Kd.R_alloc | apply Kd.R_drewN | apply Kd.R_drew)); exact HO233.out) hb); have n2_ := Aside0.mk (Kd.R_below (by (with_reducible repeat (first | apply Kd.R_alloc | apply Kd.R_drewN | apply Kd.R_drew)); exact HO237.out) hb); have n3_ := Aside0.mk (Kd.R_lower (Kd.R_new' ho0 (Kd.R_lt (by (with_reducible repeat (first | apply Kd.R_alloc | apply Kd.R_drewN | apply Kd.R_drew)); exact HO_3.out))) (below_size (by repeat (first | (with_reducible first | exact HB.out | apply below_alloc | apply pw_below_drewN | apply below_drew1) | exact HB.out)))); have n4_ := Aside0.mk (below_step (by repeat (first | (with_reducible first | exact HB.out | apply below_alloc | apply pw_below_drewN | apply below_drew1) | exact HB.out)) hb); clear HO_3; clear HO233; clear HO237; clear HB; have HO_3 := n0_; have HO233 := n1_; have HO237 := n2_; have HO240 := n3_; have HB := n4_; clear n0_ n1_ n2_ n3_ n4_; (try clear hb); (try clear hb2); (try clear hk); (try clear hi); (try clear ho0); obtain ⟨Ao56, co56, eo56⟩ := Kd.R_slice HO240.out; subst eo56; have p241 : 0 ≤ (0 : Int) := (by omega); have q241 : 0 < (t238.length : Int) := of_decide_eq_true (by first | (with_reducible assumption) | assumption); obtain ⟨ad241, e241, hx241_0⟩ := Kd.at_int (Kd.R_reads' HO240.out).2.2 0 p241 q241; cases e241; have qi241 : (0 < t238.length) = True := eq_true (by omega); (try rw [show ((0 : Int)).toNat = 0 from rfl] at hx241_0); (try rw [Addr.add_zero'] at hx241_0); replace p241 := eq_true p241; replace q241 := eq_true q241) | ((with_reducible refine gate_builtin (b := .append) (xs := #[.tmp 93, .tmp 95]) rfl ?_); at_builtin; refine Kd.R_append (Kd.int .i32) (w0 := w) w.heap.size rfl (.tmp 93) (.tmp 95) 41 21 (.int .i32 0) 4 rfl Tryd.underlying41 info21 rfl (by decide) (by omega) u3 x3_16 (rd t238 0) [.int .i32 (rd t238 0)] (fun k_ => some k_ ≠ (.slice (some ad241) t238.length co56 : Value).ownBlock) (fun _ => False) rfl rfl ?aP (fun _ hk => hk.elim) ?aF ?aO ?aB ?aS ?aL ?_; (case aP => exact rfl); (case aB => exact (by repeat (first | (with_reducible first | exact HB.out | apply below_alloc | apply pw_below_drewN | apply below_drew1) | exact HB.out))); (case aF => exact (fun k_ hk => Kd.fresh' (Kd.R_lt (by (with_reducible repeat (first | apply Kd.R_alloc | apply Kd.R_drewN | apply Kd.R_drew)); exact HO240.out)) k_ hk)); (case aO => exact (by (with_reducible repeat (first | apply Kd.R_alloc | apply Kd.R_drewN | apply Kd.R_drew)); exact Kd.R_mono HO_3.out (fun _ hk => hk.2))); (case aS => exact (below_size (by repeat (first | (with_reducible first | exact HB.out | apply below_alloc | apply pw_below_drewN | apply below_drew1) | exact HB.out)))); (case aL => have := LMc49.out; omega); intro v243 w57 ho hb hg hat; rw [← Ny242.out] at ho; have n0_ := Aside0.mk (Kd.R_over' (by (with_reducible repeat (first | apply Kd.R_alloc | apply Kd.R_drewN | apply Kd.R_drew)); exact HO233.out) (Kd.R_typed (by (with_reducible repeat (first | apply Kd.R_alloc | apply Kd.R_drewN | apply Kd.R_drew)); exact HO_3.out)) (by decide) hg); have n1_ := Aside0.mk (Kd.R_over' (by (with_reducible repeat (first | apply Kd.R_alloc | apply Kd.R_drewN | apply Kd.R_drew)); exact HO237.out) (Kd.R_typed (by (with_reducible repeat (first | apply Kd.R_alloc | apply Kd.R_drewN | apply Kd.R_drew)); exact HO_3.out)) (by decide) hg); have n2_ := Aside0.mk (Kd.R_after (ok := (fun _ => True)) (by (with_reducible repeat (first | apply Kd.R_alloc | apply Kd.R_drewN | apply Kd.R_drew)); exact HO240.out) hg hat); have n3_ := Aside0.mk (hb); have n4_ := Aside0.mk (ho); clear HO233; clear HO237; clear HO240; clear HB; clear HO_3; have HO233 := n0_; have HO237 := n1_; have HO240 := n2_; have HB := n3_; have HO244 := n4_; clear n0_ n1_ n2_ n3_ n4_; clear ho hb hg hat)))
                                          go_roundg kj16
                                          case measure => have := HK1.out; have := HJ10.out; have := HJ16.out; omega
                                          case rel => exact ⟨(y242), (wrap64 (x5_16 + 3)), (by first | rfl | (simp; done) | (simp [*]; done)), H', ⟨by have := HK1.out; have := HJ10.out; have := HJ16.out; omega⟩, ⟨by (with_reducible repeat (first | apply Kd.R_alloc | apply Kd.R_drewN | apply Kd.R_drew)); exact Kd.R_mono HO244.out (fun _ hk => trivial)⟩, ⟨by repeat (first | (with_reducible first | exact HB.out | apply below_alloc | apply pw_below_drewN | apply below_drew1) | exact HB.out)⟩⟩
                                        · rw [if_neg c49] at H
                                          exact absurd H (by simp)
                                      · rw [if_neg c48] at H
                                        exact absurd H (by simp)
                                    · rw [if_neg c46] at H
                                      exact absurd H (by simp)
                                  · replace c45 := Bool.eq_false_iff.mpr c45
                                    subst c45
                                    have H1 : (if 0 ≤ x5_16 then (if x5_16 < (a0.size : Int) then (if x3_16.length < 35184372088832 then (otto_builtinUnescape.l0 kj16 a0 (x3_16 ++ [wrap32 (bt a0 x5_16)]) (a0.size : Int) ji40) else (none)) else (none)) else (none)) = some r := by rw [if_neg (show ¬ (false = true) by decide)] at H; exact H
                                    clear H
                                    have H := H1
                                    clear H1
                                    by_cases c58 : 0 ≤ x5_16
                                    · rw [if_pos c58] at H
                                      have c58b0 : decide (0 ≤ x5_16) = true := decide_eq_true c58
                                      clear c58
                                      by_cases c59 : x5_16 < (a0.size : Int)
                                      · rw [if_pos c59] at H
                                        have c59b0 : decide (x5_16 < (a0.size : Int)) = true := decide_eq_true c59
                                        clear c59
                                        by_cases c61 : x3_16.length < 35184372088832
                                        · rw [if_pos c61] at H
                                          have LMc61 := Aside0.mk c61
                                          clear c61
                                          obtain ⟨y245, hy245⟩ : ∃ y_ : List Int, y_ = (x3_16 ++ [wrap32 (bt a0 x5_16)]) := ⟨_, rfl⟩
                                          replace H : (otto_builtinUnescape.l0 kj16 a0 y245 (a0.size : Int) ji40) = some r := by first | (rw [hy245]; with_reducible exact H) | (have H2_ := (Option.bind_some _ _).symm.trans H; rw [hy245]; with_reducible exact H2_) | (have H2_ := (Option.bind_some _ _).symm.trans H; with_reducible exact H2_) | with_reducible exact H | (rw [hy245]; exact H) | exact H
                                          have Ny245 := Aside0.mk hy245
                                          clear hy245
                                          have H' := Aside0.mk H
                                          clear H
                                          go_wp2_with (first | (go_at_call 23; (with_reducible refine (otto_zzHex.calls kj16 (a0.extract ((ji40) : Int).toNat ((wrap64 (x5_16 + 3)) : Int).toNat) t230 false _ A44.out).mono ?_); rintro e w62 ⟨v232, rfl, ho0, hb⟩; have n0_ := Aside0.mk (Kd.R_below (by (with_reducible repeat (first | apply Kd.R_alloc | apply Kd.R_drewN | apply Kd.R_drew)); exact HO_3.out) hb); have n1_ := Aside0.mk (Kd.R_lower ho0 (below_size (by repeat (first | (with_reducible first | exact HB.out | apply below_alloc | apply pw_below_drewN | apply below_drew1) | exact HB.out)))); have n2_ := Aside0.mk (below_step (by repeat (first | (with_reducible first | exact HB.out | apply below_alloc | apply pw_below_drewN | apply below_drew1) | exact HB.out)) hb); clear HO_3; clear HB; have HO_3 := n0_; have HO233 := n1_; have HB := n2_; clear n0_ n1_ n2_; (try clear hb); (try clear hb2); (try clear hk); (try clear hi); (try clear ho0); have p60 : 0 ≤ (x5_16 : Int) := of_decide_eq_true (by first | (with_reducible assumption) | assumption); have q60 : x5_16 < (a0.size : Int) := of_decide_eq_true (by first | (with_reducible assumption) | assumption); have hx60 := bt_at a0 x5_16; replace p60 := eq_true p60; replace q60 := eq_true q60) | ((with_reducible refine gate_builtin (b := .append) (xs := #[.tmp 99, .tmp 104]) rfl ?_); at_builtin; refine Kd.R_append (Kd.int .i32) (w0 := w) w.heap.size rfl (.tmp 99) (.tmp 104) 41 21 (.int .i32 0) 4 rfl Tryd.underlying41 info21 rfl (by decide) (by omega) u3 x3_16 (wrap32 (bt a0 x5_16)) [.int .i32 (wrap32 (bt a0 x5_16))] (fun _ => True) (fun _ => False) rfl rfl ?aP (fun _ hk => hk.elim) ?aF ?aO ?aB ?aS ?aL ?_; (case aP => exact rfl); (case aB => exact (by repeat (first | (with_reducible first | exact HB.out | apply below_alloc | apply pw_below_drewN | apply below_drew1) | exact HB.out))); (case aF => exact (fun _ _ => trivial)); (case aO => exact (by (with_reducible repeat (first | apply Kd.R_alloc | apply Kd.R_drewN | apply Kd.R_drew)); exact HO_3.out)); (case aS => exact (below_size (by repeat (first | (with_reducible first | exact HB.out | apply below_alloc | apply pw_below_drewN | apply below_drew1) | exact HB.out)))); (case aL => have := LMc61.out; omega); intro v246 w63 ho hb hg hat; rw [← Ny245.out] at ho; have n0_ := Aside0.mk (Kd.R_over' (by (with_reducible repeat (first | apply Kd.R_alloc | apply Kd.R_drewN | apply Kd.R_drew)); exact HO233.out) (Kd.R_typed (by (with_reducible repeat (first | apply Kd.R_alloc | apply Kd.R_drewN | apply Kd.R_drew)); exact HO_3.out)) (by decide) hg); have n1_ := Aside0.mk (hb); have n2_ := Aside0.mk (ho); clear HO233; clear HB; clear HO_3; have HO233 := n0_; have HB := n1_; have HO247 := n2_; clear n0_ n1_ n2_; clear ho hb hg hat))
                                          repeat (go_quiet (first | (go_at_call 23; (with_reducible refine (otto_zzHex.calls kj16 (a0.extract ((ji40) : Int).toNat ((wrap64 (x5_16 + 3)) : Int).toNat) t230 false _ A44.out).mono ?_); rintro e w62 ⟨v232, rfl, ho0, hb⟩; have n0_ := Aside0.mk (Kd.R_below (by (with_reducible repeat (first | apply Kd.R_alloc | apply Kd.R_drewN | apply Kd.R_drew)); exact HO_3.out) hb); have n1_ := Aside0.mk (Kd.R_lower ho0 (below_size (by repeat (first | (with_reducible first | exact HB.out | apply below_alloc | apply pw_below_drewN | apply below_drew1) | exact HB.out)))); have n2_ := Aside0.mk (below_step (by repeat (first | (with_reducible first | exact HB.out | apply below_alloc | apply pw_below_drewN | apply below_drew1) | exact HB.out)) hb); clear HO_3; clear HB; have HO_3 := n0_; have HO233 := n1_; have HB := n2_; clear n0_ n1_ n2_; (try clear hb); (try clear hb2); (try clear hk); (try clear hi); (try clear ho0); have p60 : 0 ≤ (x5_16 : Int) := of_decide_eq_true (by first | (with_reducible assumption) | assumption); have q60 : x5_16 < (a0.size : Int) := of_decide_eq_true (by first | (with_reducible assumption) | assumption); have hx60 := bt_at a0 x5_16; replace p60 := eq_true p60; replace q60 := eq_true q60) | ((with_reducible refine gate_builtin (b := .append) (xs := #[.tmp 99, .tmp 104]) rfl ?_); at_builtin; refine Kd.R_append (Kd.int .i32) (w0 := w) w.heap.size rfl (.tmp 99) (.tmp 104) 41 21 (.int .i32 0) 4 rfl Tryd.underlying41 info21 rfl (by decide) (by omega) u3 x3_16 (wrap32 (bt a0 x5_16)) [.int .i32 (wrap32 (bt a0 x5_16))] (fun _ => True) (fun _ => False) rfl rfl ?aP (fun _ hk => hk.elim) ?aF ?aO ?aB ?aS ?aL ?_; (case aP => exact rfl); (case aB => exact (by repeat (first | (with_reducible first | exact HB.out | apply below_alloc | apply pw_below_drewN | apply below_drew1) | exact HB.out))); (case aF => exact (fun _ _ => trivial)); (case aO => exact (by (with_reducible repeat (first | apply Kd.R_alloc | apply Kd.R_drewN | apply Kd.R_drew)); exact HO_3.out)); (case aS => exact (below_size (by repeat (first | (with_reducible first | exact HB.out | apply below_alloc | apply pw_below_drewN | apply below_drew1) | exact HB.out)))); (case aL => have := LMc61.out; omega); intro v246 w63 ho hb hg hat; rw [← Ny245.out] at ho; have n0_ := Aside0.mk (Kd.R_over' (by (with_reducible repeat (first | apply Kd.R_alloc | apply Kd.R_drewN | apply Kd.R_drew)); exact HO233.out) (Kd.R_typed (by (with_reducible repeat (first | apply Kd.R_alloc | apply Kd.R_drewN | apply Kd.R_drew)); exact HO_3.out)) (by decide) hg); have n1_ := Aside0.mk (hb); have n2_ := Aside0.mk (ho); clear HO233; clear HB; clear HO_3; have HO233 := n0_; have HB := n1_; have HO247 := n2_; clear n0_ n1_ n2_; clear ho hb hg hat)); try go_wp2_with (first | (go_at_call 23; (with_reducible refine (otto_zzHex.calls kj16 (a0.extract ((ji40) : Int).toNat ((wrap64 (x5_16 + 3)) : Int).toNat) t230 false _ A44.out).mono ?_); rintro e w62 ⟨v232, rfl, ho0, hb⟩; have n0_ := Aside0.mk (Kd.R_below (by (with_reducible repeat (first | apply Kd.R_alloc | apply Kd.R_drewN | apply Kd.R_drew)); exact HO_3.out) hb); have n1_ := Aside0.mk (Kd.R_lower ho0 (below_size (by repeat (first | (with_reducible first | exact HB.out | apply below_alloc | apply pw_below_drewN | apply below_drew1) | exact HB.out)))); have n2_ := Aside0.mk (below_step (by repeat (first | (with_reducible first | exact HB.out | apply below_alloc | apply pw_below_drewN | apply below_drew1) | exact HB.out)) hb); clear HO_3; clear HB; have HO_3 := n0_; have HO233 := n1_; have HB := n2_; clear n0_ n1_ n2_; (try clear hb); (try clear hb2); (try clear hk); (try clear hi); (try clear ho0); have p60 : 0 ≤ (x5_16 : Int) := of_decide_eq_true (by first | (with_reducible assumption) | assumption); have q60 : x5_16 < (a0.size : Int) := of_decide_eq_true (by first | (with_reducible assumption) | assumption); have hx60 := bt_at a0 x5_16; replace p60 := eq_true p60; replace q60 := eq_true q60) | ((with_reducible refine gate_builtin (b := .append) (xs := #[.tmp 99, .tmp 104]) rfl ?_); at_builtin; refine Kd.R_append (Kd.int .i32) (w0 := w) w.heap.size rfl (.tmp 99) (.tmp 104) 41 21 (.int .i32 0) 4 rfl Tryd.underlying41 info21 rfl (by decide) (by omega) u3 x3_16 (wrap32 (bt a0 x5_16)) [.int .i32 (wrap32 (bt a0 x5_16))] (fun _ => True) (fun _ => False) rfl rfl ?aP (fun _ hk => hk.elim) ?aF ?aO ?aB ?aS ?aL ?_; (case aP => exact rfl); (case aB => exact (by repeat (first | (with_reducible first | exact HB.out | apply below_alloc | apply pw_below_drewN | apply below_drew1) | exact HB.out))); (case aF => exact (fun _ _ => trivial)); (case aO => exact (by (with_reducible repeat (first | apply Kd.R_alloc | apply Kd.R_drewN | apply Kd.R_drew)); exact HO_3.out)); (case aS => exact (below_size (by repeat (first | (with_reducible first | exact HB.out | apply below_alloc | apply pw_below_drewN | apply below_drew1) | exact HB.out)))); (case aL => have := LMc61.out; omega); intro v246 w63 ho hb hg hat; rw [← Ny245.out] at ho; have n0_ := Aside0.mk (Kd.R_over' (by (with_reducible repeat (first | apply Kd.R_alloc | apply Kd.R_drewN | apply Kd.R_drew)); exact HO233.out) (Kd.R_typed (by (with_reducible repeat (first | apply Kd.R_alloc | apply Kd.R_drewN | apply Kd.R_drew)); exact HO_3.out)) (by decide) hg); have n1_ := Aside0.mk (hb); have n2_ := Aside0.mk (ho); clear HO233; clear HB; clear HO_3; have HO233 := n0_; have HB := n1_; have HO247 := n2_; clear n0_ n1_ n2_; clear ho hb hg hat)))
                                          go_roundg kj16
                                          case measure => have := HK1.out; have := HJ10.out; have := HJ16.out; omega
                                          case rel => exact ⟨(y245), (ji40), (by first | rfl | (simp; done) | (simp only [← hji40] <;> (first | rfl | simp)) | (simp [*]; done)), H', ⟨by have := HK1.out; have := HJ10.out; have := HJ16.out; omega⟩, ⟨by (with_reducible repeat (first | apply Kd.R_alloc | apply Kd.R_drewN | apply Kd.R_drew)); exact HO247.out⟩, ⟨by repeat (first | (with_reducible first | exact HB.out | apply below_alloc | apply pw_below_drewN | apply below_drew1) | exact HB.out)⟩⟩
                                        · rw [if_neg c61] at H
                                          exact absurd H (by simp)
                                      · rw [if_neg c59] at H
                                        exact absurd H (by simp)
                                    · rw [if_neg c58] at H
                                      exact absurd H (by simp)
                                · rw [if_neg c43] at H
                                  exact absurd H (by simp)
                              · rw [if_neg c42] at H
                                exact absurd H (by simp)
                            · rw [if_neg c41] at H
                              exact absurd H (by simp)
                          · rw [if_neg c39] at H
                            have c39b0 : decide (x5_16 ≤ (wrap64 ((a0.size : Int) - 3))) = false := decide_eq_false c39
                            clear c39
                            by_cases c64 : 0 ≤ x5_16
                            · rw [if_pos c64] at H
                              have c64b0 : decide (0 ≤ x5_16) = true := decide_eq_true c64
                              clear c64
                              by_cases c65 : x5_16 < (a0.size : Int)
                              · rw [if_pos c65] at H
                                have c65b0 : decide (x5_16 < (a0.size : Int)) = true := decide_eq_true c65
                                clear c65
                                by_cases c67 : x3_16.length < 35184372088832
                                · rw [if_pos c67] at H
                                  have LMc67 := Aside0.mk c67
                                  clear c67
                                  obtain ⟨y248, hy248⟩ : ∃ y_ : List Int, y_ = (x3_16 ++ [wrap32 (bt a0 x5_16)]) := ⟨_, rfl⟩
                                  replace H : (otto_builtinUnescape.l0 kj16 a0 y248 (a0.size : Int) (wrap64 (x5_16 + 1))) = some r := by first | (rw [hy248]; with_reducible exact H) | (have H2_ := (Option.bind_some _ _).symm.trans H; rw [hy248]; with_reducible exact H2_) | (have H2_ := (Option.bind_some _ _).symm.trans H; with_reducible exact H2_) | with_reducible exact H | (rw [hy248]; exact H) | exact H
                                  have Ny248 := Aside0.mk hy248
                                  clear hy248
                                  have H' := Aside0.mk H
                                  clear H
                                  have p66 : 0 ≤ (x5_16 : Int) := of_decide_eq_true (by first | (with_reducible assumption) | assumption)
                                  have q66 : x5_16 < (a0.size : Int) := of_decide_eq_true (by first | (with_reducible assumption) | assumption)
                                  have hx66 := bt_at a0 x5_16
                                  replace p66 := eq_true p66
                                  replace q66 := eq_true q66
                                  go_wp2_with (first | ((with_reducible refine gate_builtin (b := .append) (xs := #[.tmp 99, .tmp 104]) rfl ?_); at_builtin; refine Kd.R_append (Kd.int .i32) (w0 := w) w.heap.size rfl (.tmp 99) (.tmp 104) 41 21 (.int .i32 0) 4 rfl Tryd.underlying41 info21 rfl (by decide) (by omega) u3 x3_16 (wrap32 (bt a0 x5_16)) [.int .i32 (wrap32 (bt a0 x5_16))] (fun _ => True) (fun _ => False) rfl rfl ?aP (fun _ hk => hk.elim) ?aF ?aO ?aB ?aS ?aL ?_; (case aP => exact rfl); (case aB => exact (by repeat (first | (with_reducible first | exact HB.out | apply below_alloc | apply pw_below_drewN | apply below_drew1) | exact HB.out))); (case aF => exact (fun _ _ => trivial)); (case aO => exact (by (with_reducible repeat (first | apply Kd.R_alloc | apply Kd.R_drewN | apply Kd.R_drew)); exact HO_3.out)); (case aS => exact (below_size (by repeat (first | (with_reducible first | exact HB.out | apply below_alloc | apply pw_below_drewN | apply below_drew1) | exact HB.out)))); (case aL => have := LMc67.out; omega); intro v249 w68 ho hb hg hat; rw [← Ny248.out] at ho; have n0_ := Aside0.mk (hb); have n1_ := Aside0.mk (ho); clear HB; clear HO_3; have HB := n0_; have HO250 := n1_; clear n0_ n1_; clear ho hb hg hat))
                                  repeat (go_quiet (first | ((with_reducible refine gate_builtin (b := .append) (xs := #[.tmp 99, .tmp 104]) rfl ?_); at_builtin; refine Kd.R_append (Kd.int .i32) (w0 := w) w.heap.size rfl (.tmp 99) (.tmp 104) 41 21 (.int .i32 0) 4 rfl Tryd.underlying41 info21 rfl (by decide) (by omega) u3 x3_16 (wrap32 (bt a0 x5_16)) [.int .i32 (wrap32 (bt a0 x5_16))] (fun _ => True) (fun _ => False) rfl rfl ?aP (fun _ hk => hk.elim) ?aF ?aO ?aB ?aS ?aL ?_; (case aP => exact rfl); (case aB => exact (by repeat (first | (with_reducible first | exact HB.out | apply below_alloc | apply pw_below_drewN | apply below_drew1) | exact HB.out))); (case aF => exact (fun _ _ => trivial)); (case aO => exact (by (with_reducible repeat (first | apply Kd.R_alloc | apply Kd.R_drewN | apply Kd.R_drew)); exact HO_3.out)); (case aS => exact (below_size (by repeat (first | (with_reducible first | exact HB.out | apply below_alloc | apply pw_below_drewN | apply below_drew1) | exact HB.out)))); (case aL => have := LMc67.out; omega); intro v249 w68 ho hb hg hat; rw [← Ny248.out] at ho; have n0_ := Aside0.mk (hb); have n1_ := Aside0.mk (ho); clear HB; clear HO_3; have HB := n0_; have HO250 := n1_; clear n0_ n1_; clear ho hb hg hat)); try go_wp2_with (first | ((with_reducible refine gate_builtin (b := .append) (xs := #[.tmp 99, .tmp 104]) rfl ?_); at_builtin; refine Kd.R_append (Kd.int .i32) (w0 := w) w.heap.size rfl (.tmp 99) (.tmp 104) 41 21 (.int .i32 0) 4 rfl Tryd.underlying41 info21 rfl (by decide) (by omega) u3 x3_16 (wrap32 (bt a0 x5_16)) [.int .i32 (wrap32 (bt a0 x5_16))] (fun _ => True) (fun _ => False) rfl rfl ?aP (fun _ hk => hk.elim) ?aF ?aO ?aB ?aS ?aL ?_; (case aP => exact rfl); (case aB => exact (by repeat (first | (with_reducible first | exact HB.out | apply below_alloc | apply pw_below_drewN | apply below_drew1) | exact HB.out))); (case aF => exact (fun _ _ => trivial)); (case aO => exact (by (with_reducible repeat (first | apply Kd.R_alloc | apply Kd.R_drewN | apply Kd.R_drew)); exact HO_3.out)); (case aS => exact (below_size (by repeat (first | (with_reducible first | exact HB.out | apply below_alloc | apply pw_below_drewN | apply below_drew1) | exact HB.out)))); (case aL => have := LMc67.out; omega); intro v249 w68 ho hb hg hat; rw [← Ny248.out] at ho; have n0_ := Aside0.mk (hb); have n1_ := Aside0.mk (ho); clear HB; clear HO_3; have HB := n0_; have HO250 := n1_; clear n0_ n1_; clear ho hb hg hat)))
                                  go_roundg kj16
                                  case measure => have := HK1.out; have := HJ10.out; have := HJ16.out; omega
                                  case rel => exact ⟨(y248), (wrap64 (x5_16 + 1)), (by first | rfl | (simp; done) | (simp [*]; done)), H', ⟨by have := HK1.out; have := HJ10.out; have := HJ16.out; omega⟩, ⟨by (with_reducible repeat (first | apply Kd.R_alloc | apply Kd.R_drewN | apply Kd.R_drew)); exact HO250.out⟩, ⟨by repeat (first | (with_reducible first | exact HB.out | apply below_alloc | apply pw_below_drewN | apply below_drew1) | exact HB.out)⟩⟩
                                · rw [if_neg c67] at H
                                  exact absurd H (by simp)
                              · rw [if_neg c65] at H
                                exact absurd H (by simp)
                            · rw [if_neg c64] at H
                              exact absurd H (by simp)
                · rw [if_neg c10] at H
                  have c10b0 : ((bt a0 x5_1) == 37) = false := beq_eq_false_iff_ne.mpr c10
                  have c10b1 : ((bt a0 x5_1) != 37) = true := bne_iff_ne.mpr c10
                  by_cases c70 : x3_1.length < 35184372088832
                  · rw [if_pos c70] at H
                    have LMc70 := Aside0.mk c70
                    clear c70
                    obtain ⟨y251, hy251⟩ : ∃ y_ : List Int, y_ = (x3_1 ++ [wrap32 (bt a0 x5_1)]) := ⟨_, rfl⟩
                    replace H : (otto_builtinUnescape.l0 k1 a0 y251 (a0.size : Int) (wrap64 (x5_1 + 1))) = some r := by first | (rw [hy251]; with_reducible exact H) | (have H2_ := (Option.bind_some _ _).symm.trans H; rw [hy251]; with_reducible exact H2_) | (have H2_ := (Option.bind_some _ _).symm.trans H; with_reducible exact H2_) | with_reducible exact H | (rw [hy251]; exact H) | exact H
                    have Ny251 := Aside0.mk hy251
                    clear hy251
                    have H' := Aside0.mk H
                    clear H
                    have p9 : 0 ≤ (x5_1 : Int) := of_decide_eq_true (by first | (with_reducible assumption) | assumption)
                    have q9 : x5_1 < (a0.size : Int) := of_decide_eq_true (by first | (with_reducible assumption) | assumption)
                    have hx9 := bt_at a0 x5_1
                    replace p9 := eq_true p9
                    replace q9 := eq_true q9
                    have p69 : 0 ≤ (x5_1 : Int) := of_decide_eq_true (by first | (with_reducible assumption) | assumption)
                    have q69 : x5_1 < (a0.size : Int) := of_decide_eq_true (by first | (with_reducible assumption) | assumption)
                    have hx69 := bt_at a0 x5_1
                    replace p69 := eq_true p69
                    replace q69 := eq_true q69
                    go_wp2_with (first | ((with_reducible refine gate_builtin (b := .append) (xs := #[.tmp 99, .tmp 104]) rfl ?_); at_builtin; refine Kd.R_append (Kd.int .i32) (w0 := w) w.heap.size rfl (.tmp 99) (.tmp 104) 41 21 (.int .i32 0) 4 rfl Tryd.underlying41 info21 rfl (by decide) (by omega) u3 x3_1 (wrap32 (bt a0 x5_1)) [.int .i32 (wrap32 (bt a0 x5_1))] (fun _ => True) (fun _ => False) rfl rfl ?aP (fun _ hk => hk.elim) ?aF ?aO ?aB ?aS ?aL ?_; (case aP => exact rfl); (case aB => exact (by repeat (first | (with_reducible first | exact HB.out | apply below_alloc | apply pw_below_drewN | apply below_drew1) | exact HB.out))); (case aF => exact (fun _ _ => trivial)); (case aO => exact (by (with_reducible repeat (first | apply Kd.R_alloc | apply Kd.R_drewN | apply Kd.R_drew)); exact HO_3.out)); (case aS => exact (below_size (by repeat (first | (with_reducible first | exact HB.out | apply below_alloc | apply pw_below_drewN | apply below_drew1) | exact HB.out)))); (case aL => have := LMc70.out; omega); intro v252 w71 ho hb hg hat; rw [← Ny251.out] at ho; have n0_ := Aside0.mk (hb); have n1_ := Aside0.mk (ho); clear HB; clear HO_3; have HB := n0_; have HO253 := n1_; clear n0_ n1_; clear ho hb hg hat))
                    repeat (go_quiet (first | ((with_reducible refine gate_builtin (b := .append) (xs := #[.tmp 99, .tmp 104]) rfl ?_); at_builtin; refine Kd.R_append (Kd.int .i32) (w0 := w) w.heap.size rfl (.tmp 99) (.tmp 104) 41 21 (.int .i32 0) 4 rfl Tryd.underlying41 info21 rfl (by decide) (by omega) u3 x3_1 (wrap32 (bt a0 x5_1)) [.int .i32 (wrap32 (bt a0 x5_1))] (fun _ => True) (fun _ => False) rfl rfl ?aP (fun _ hk => hk.elim) ?aF ?aO ?aB ?aS ?aL ?_; (case aP => exact rfl); (case aB => exact (by repeat (first | (with_reducible first | exact HB.out | apply below_alloc | apply pw_below_drewN | apply below_drew1) | exact HB.out))); (case aF => exact (fun _ _ => trivial)); (case aO => exact (by (with_reducible repeat (first | apply Kd.R_alloc | apply Kd.R_drewN | apply Kd.R_drew)); exact HO_3.out)); (case aS => exact (below_size (by repeat (first | (with_reducible first | exact HB.out | apply below_alloc | apply pw_below_drewN | apply below_drew1) | exact HB.out)))); (case aL => have := LMc70.out; omega); intro v252 w71 ho hb hg hat; rw [← Ny251.out] at ho; have n0_ := Aside0.mk (hb); have n1_ := Aside0.mk (ho); clear HB; clear HO_3; have HB := n0_; have HO253 := n1_; clear n0_ n1_; clear ho hb hg hat)); try go_wp2_with (first | ((with_reducible refine gate_builtin (b := .append) (xs := #[.tmp 99, .tmp 104]) rfl ?_); at_builtin; refine Kd.R_append (Kd.int .i32) (w0 := w) w.heap.size rfl (.tmp 99) (.tmp 104) 41 21 (.int .i32 0) 4 rfl Tryd.underlying41 info21 rfl (by decide) (by omega) u3 x3_1 (wrap32 (bt a0 x5_1)) [.int .i32 (wrap32 (bt a0 x5_1))] (fun _ => True) (fun _ => False) rfl rfl ?aP (fun _ hk => hk.elim) ?aF ?aO ?aB ?aS ?aL ?_; (case aP => exact rfl); (case aB => exact (by repeat (first | (with_reducible first | exact HB.out | apply below_alloc | apply pw_below_drewN | apply below_drew1) | exact HB.out))); (case aF => exact (fun _ _ => trivial)); (case aO => exact (by (with_reducible repeat (first | apply Kd.R_alloc | apply Kd.R_drewN | apply Kd.R_drew)); exact HO_3.out)); (case aS => exact (below_size (by repeat (first | (with_reducible first | exact HB.out | apply below_alloc | apply pw_below_drewN | apply below_drew1) | exact HB.out)))); (case aL => have := LMc70.out; omega); intro v252 w71 ho hb hg hat; rw [← Ny251.out] at ho; have n0_ := Aside0.mk (hb); have n1_ := Aside0.mk (ho); clear HB; clear HO_3; have HB := n0_; have HO253 := n1_; clear n0_ n1_; clear ho hb hg hat)))
                    go_roundg k1
                    case measure => have := HK1.out; omega
                    case rel => exact ⟨(y251), (wrap64 (x5_1 + 1)), (by first | rfl | (simp; done) | (simp [*]; done)), H', ⟨by have := HK1.out; omega⟩, ⟨by (with_reducible repeat (first | apply Kd.R_alloc | apply Kd.R_drewN | apply Kd.R_drew)); exact HO253.out⟩, ⟨by repeat (first | (with_reducible first | exact HB.out | apply below_alloc | apply pw_below_drewN | apply below_drew1) | exact HB.out)⟩⟩
                  · rw [if_neg c70] at H
                    exact absurd H (by simp)
              · rw [if_neg c8] at H
                exact absurd H (by simp)
            · rw [if_neg c7] at H
              exact absurd H (by simp)
          · rw [if_neg c6] at H
            have c6b0 : decide (x5_1 < (a0.size : Int)) = false := decide_eq_false c6
            clear c6
            obtain rfl := Option.some.inj H
            have hcv72 := own_runes (P := Tryd.prog) Tryd.underlying41 Tryd.underlying21 Tryd.underlying9 (Kd.own_of_R HO_3.out)
            go_wp2
            repeat (go_quiet (fail); try go_wp2)
            go_ret
            exact ⟨by first | rfl | (simp [errW_none, errW_some] <;> rfl) | (simp [*, errW_none, errW_some] <;> rfl), by repeat (first | (with_reducible first | exact HB.out | apply below_alloc | apply pw_below_drewN | apply below_drew1) | exact HB.out)⟩
    · rw [if_neg c3] at H
      exact absurd H (by simp)
  · rw [if_neg c2] at H
    exact absurd H (by simp)

/-! ### otto_ZZUnescape: function 17 -/
def otto_ZZUnescape.f (k : Nat) (a0 : ByteArray) : Option (ByteArray) := (otto_builtinUnescape.f k a0).bind fun t254 => (some t254)
theorem otto_ZZUnescape.mono : ∀ a0 k, LeO (otto_ZZUnescape.f k a0) (otto_ZZUnescape.f (k + 1) a0) := by
  intro a0 k
  unfold otto_ZZUnescape.f
  repeat' first
      | (with_reducible exact otto_builtinUnescape.mono _ _)
      | (with_reducible exact LeO.refl _)
      | (with_reducible exact LeO.none _)
      | (with_reducible refine LeO.ite ?_ ?_)
      | (with_reducible refine LeO.bind ?_ (fun _ => ?_))
      | exact otto_builtinUnescape.mono _ _
      | exact LeO.none _
      | refine LeO.ite ?_ ?_
      | refine LeO.bind ?_ (fun _ => ?_)
set_option maxHeartbeats 8000000 in
set_option maxRecDepth 100000 in
theorem otto_ZZUnescape.calls (k : Nat) (a0 : ByteArray) (r : ByteArray) (w : World) (h : otto_ZZUnescape.f k a0 = some r) :
    Calls Tryd.prog 17 #[.string a0] w fun e w' => e = .returned (.string r) ∧ Below w.heap.size w w' := by
  have HB := Aside0.mk (Below.refl w.heap.size w)
  have H : ((otto_builtinUnescape.f k a0).bind fun t254 => (some t254)) = some r := h
  clear h
  replace H := Option.bind_eq_some_iff.mp H
  obtain ⟨t254, A20, H⟩ := H
  replace H : (some t254) = some r := H
  have A2 := Aside0.mk A20
  clear A20
  obtain rfl := Option.some.inj H
  go_enter Tryd.func17, Tryd.ntmps17
  go_wp2_with (first | ((with_reducible refine gate_callee (f := 19) rfl ?_); refine goesL_ (some 4) rfl rfl Tryd.func19 (by kernel_rfl) rfl #[.string a0] rfl (by (try simp only [List.map_toArray, List.map_cons, List.map_nil]); first | done | rfl | (simp only [List.length_drop, List.length_take]; rfl)) ?_; (with_reducible refine (otto_builtinUnescape.calls k a0 t254 _ A2.out).mono ?_); rintro e w3 ⟨rfl, hb⟩; refine ⟨_, rfl, ?_⟩; have n0_ := Aside0.mk (below_step (by repeat (first | (with_reducible first | exact HB.out | apply below_alloc | apply pw_below_drewN | apply below_drew1) | exact HB.out)) hb); clear HB; have HB := n0_; clear n0_; (try clear hb); (try clear hb2); (try clear hk); (try clear hi)))
  go_ret
  exact ⟨by first | rfl | (simp [errW_none, errW_some] <;> rfl) | (simp [*, errW_none, errW_some] <;> rfl), by repeat (first | (with_reducible first | exact HB.out | apply below_alloc | apply pw_below_drewN | apply below_drew1) | exact HB.out)⟩

/-! ### impl_Unescape: function 9 -/
def impl_Unescape.f (k : Nat) (a0 : ByteArray) : Option (ByteArray) := (otto_ZZUnescape.f k a0).bind fun t255 => (some t255)
theorem impl_Unescape.mono : ∀ a0 k, LeO (impl_Unescape.f k a0) (impl_Unescape.f (k + 1) a0) := by
  intro a0 k
  unfold impl_Unescape.f
  repeat' first
      | (with_reducible exact otto_ZZUnescape.mono _ _)
      | (with_reducible exact LeO.refl _)
      | (with_reducible exact LeO.none _)
      | (with_reducible refine LeO.ite ?_ ?_)
      | (with_reducible refine LeO.bind ?_ (fun _ => ?_))
      | exact otto_ZZUnescape.mono _ _
      | exact LeO.none _
      | refine LeO.ite ?_ ?_
      | refine LeO.bind ?_ (fun _ => ?_)
set_option maxHeartbeats 8000000 in
set_option maxRecDepth 100000 in
theorem impl_Unescape.calls (k : Nat) (a0 : ByteArray) (r : ByteArray) (w : World) (h : impl_Unescape.f k a0 = some r) :
    Calls Tryd.prog 9 #[.string a0] w fun e w' => e = .returned (.string r) ∧ Below w.heap.size w w' := by
  have HB := Aside0.mk (Below.refl w.heap.size w)
  have H : ((otto_ZZUnescape.f k a0).bind fun t255 => (some t255)) = some r := h
  clear h
  replace H := Option.bind_eq_some_iff.mp H
  obtain ⟨t255, A20, H⟩ := H
  replace H : (some t255) = some r := H
  have A2 := Aside0.mk A20
  clear A20
  obtain rfl := Option.some.inj H
  go_enter Tryd.func9, Tryd.ntmps9
  go_wp2_with (first | ((with_reducible refine gate_callee (f := 17) rfl ?_); refine goesL_ (some 4) rfl rfl Tryd.func17 (by kernel_rfl) rfl #[.string a0] rfl (by (try simp only [List.map_toArray, List.map_cons, List.map_nil]); first | done | rfl | (simp only [List.length_drop, List.length_take]; rfl)) ?_; (with_reducible refine (otto_ZZUnescape.calls k a0 t255 _ A2.out).mono ?_); rintro e w3 ⟨rfl, hb⟩; refine ⟨_, rfl, ?_⟩; have n0_ := Aside0.mk (below_step (by repeat (first | (with_reducible first | exact HB.out | apply below_alloc | apply pw_below_drewN | apply below_drew1) | exact HB.out)) hb); clear HB; have HB := n0_; clear n0_; (try clear hb); (try clear hb2); (try clear hk); (try clear hi)))
  go_ret
  exact ⟨by first | rfl | (simp [errW_none, errW_some] <;> rfl) | (simp [*, errW_none, errW_some] <;> rfl), by repeat (first | (with_reducible first | exact HB.out | apply below_alloc | apply pw_below_drewN | apply below_drew1) | exact HB.out)⟩

end Go.Proofs.YtllaepgbpmiglaaDoor.QFnEscape
