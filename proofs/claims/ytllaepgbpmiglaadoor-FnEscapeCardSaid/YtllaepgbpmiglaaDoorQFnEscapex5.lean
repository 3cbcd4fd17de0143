-- Written by a program of this session out of the translation (a copy of the kit's print, turned). Not trusted: Lean checks it.
import Derived.Test.YtllaepgbpmiglaaDoorQFnEscapex0
import Derived.Test.YtllaepgbpmiglaaDoorQFnEscapex3
import Derived.Test.YtllaepgbpmiglaaDoorQFnEscapex4
namespace Go.Proofs.YtllaepgbpmiglaaDoor.QFnEscape
open Go.RowKit Go.Proofs.YtllaepgbpmiglaaDoorW.PrintWords Go.Proofs.YtllaepgbpmiglaaDoorW.PrintLast Go.Proofs.YtllaepgbpmiglaaDoorW.PrintMore
attribute [local go_sem] max2_int min2_int max_two min_two max_three min_three max_four min_four   -- for this text's walks alone
set_option linter.unusedVariables false
set_option linter.unusedSimpArgs false

/-! ### otto_builtinEscape: function 18 -/
def otto_builtinEscape.l0 : Nat → ByteArray → List Int → Int → Int → Option (ByteArray)
  | 0, _, _, _, _ => none
  | k + 1, x0, x3, x4, x5 => if x5 < x4 then (if 0 ≤ x5 then (if x5 < (x0.size : Int) then ((otto_builtinShouldEscape.f k (bt x0 x5)).bind fun t135 => (if t135 = true then (if x5 ≤ (x0.size : Int) then ((utf8_DecodeRuneInString.f (x0.extract (x5 : Int).toNat x0.size)).bind fun bt136 => ((utf16_Encode.f k (([bt136.1] : List Int))).bind fun t141 => (if 0 < (t141.length : Int) then (if 256 > (rd t141 0) then (if 0 ≤ ((rd t141 0) / 16) then (if ((rd t141 0) / 16) < 16 then (if 0 ≤ (Go.bits .and .u16 (rd t141 0) 15) then (if (Go.bits .and .u16 (rd t141 0) 15) < 16 then ((some (([37, bt (⟨#[48, 49, 50, 51, 52, 53, 54, 55, 56, 57, 65, 66, 67, 68, 69, 70]⟩ : ByteArray) ((rd t141 0) / 16), bt (⟨#[48, 49, 50, 51, 52, 53, 54, 55, 56, 57, 65, 66, 67, 68, 69, 70]⟩ : ByteArray) (Go.bits .and .u16 (rd t141 0) 15)] : List Int) : List Int)).bind fun y145 => (if x3.length + y145.length < 140737488355328 then (otto_builtinEscape.l0 k x0 (x3 ++ y145) x4 (wrap64 (x5 + bt136.2))) else (none))) else (none)) else (none)) else (none)) else (none)) else (if 0 ≤ ((rd t141 0) / 4096) then (if ((rd t141 0) / 4096) < 16 then (if 0 ≤ (Go.bits .and .u16 ((rd t141 0) / 256) 15) then (if (Go.bits .and .u16 ((rd t141 0) / 256) 15) < 16 then (if 0 ≤ (Go.bits .and .u16 ((rd t141 0) / 16) 15) then (if (Go.bits .and .u16 ((rd t141 0) / 16) 15) < 16 then (if 0 ≤ (Go.bits .and .u16 (rd t141 0) 15) then (if (Go.bits .and .u16 (rd t141 0) 15) < 16 then ((some (([37, 117, bt (⟨#[48, 49, 50, 51, 52, 53, 54, 55, 56, 57, 65, 66, 67, 68, 69, 70]⟩ : ByteArray) ((rd t141 0) / 4096), bt (⟨#[48, 49, 50, 51, 52, 53, 54, 55, 56, 57, 65, 66, 67, 68, 69, 70]⟩ : ByteArray) (Go.bits .and .u16 ((rd t141 0) / 256) 15), bt (⟨#[48, 49, 50, 51, 52, 53, 54, 55, 56, 57, 65, 66, 67, 68, 69, 70]⟩ : ByteArray) (Go.bits .and .u16 ((rd t141 0) / 16) 15), bt (⟨#[48, 49, 50, 51, 52, 53, 54, 55, 56, 57, 65, 66, 67, 68, 69, 70]⟩ : ByteArray) (Go.bits .and .u16 (rd t141 0) 15)] : List Int) : List Int)).bind fun y151 => (if x3.length + y151.length < 140737488355328 then (otto_builtinEscape.l0 k x0 (x3 ++ y151) x4 (wrap64 (x5 + bt136.2))) else (none))) else (none)) else (none)) else (none)) else (none)) else (none)) else (none)) else (none)) else (none))) else (none)))) else (none)) else (if x3.length < 140737488355328 then (otto_builtinEscape.l0 k x0 (x3 ++ [bt x0 x5]) x4 (wrap64 (x5 + 1))) else (none)))) else (none)) else (none)) else (some (strOfNums x3))
def otto_builtinEscape.f (k : Nat) (a0 : ByteArray) : Option (ByteArray) := if 0 ≤ (a0.size : Int) then (if ((a0.size : Int) : Int).toNat ≤ 281474976710656 then (otto_builtinEscape.l0 k a0 (([] : List Int)) (a0.size : Int) 0) else (none)) else (none)
theorem otto_builtinEscape.mono_l : ∀ k, (∀ y0 y1 y2 y3, LeO (otto_builtinEscape.l0 k y0 y1 y2 y3) (otto_builtinEscape.l0 (k + 1) y0 y1 y2 y3))
  | 0 => fun _ _ _ _ r h => by simp [otto_builtinEscape.l0] at h
  | k + 1 => by
    have ih0 := otto_builtinEscape.mono_l k
    · intro y0 y1 y2 y3
      unfold otto_builtinEscape.l0
      repeat' first
      | (with_reducible exact ih0 _ _ _ _)
      | (with_reducible exact otto_builtinShouldEscape.mono _ _)
      | (with_reducible exact utf16_Encode.mono _ _)
      | (with_reducible exact LeO.refl _)
      | (with_reducible exact LeO.none _)
      | (with_reducible refine LeO.ite ?_ ?_)
      | (with_reducible refine LeO.bind ?_ (fun _ => ?_))
      | exact ih0 _ _ _ _
      | exact otto_builtinShouldEscape.mono _ _
      | exact utf16_Encode.mono _ _
      | exact LeO.none _
      | refine LeO.ite ?_ ?_
      | refine LeO.bind ?_ (fun _ => ?_)
theorem otto_builtinEscape.mono : ∀ a0 k, LeO (otto_builtinEscape.f k a0) (otto_builtinEscape.f (k + 1) a0) := by
  intro a0 k
  have ih0 := otto_builtinEscape.mono_l k
  unfold otto_builtinEscape.f
  repeat' first
      | (with_reducible exact ih0 _ _ _ _)
      | (with_reducible exact otto_builtinShouldEscape.mono _ _)
      | (with_reducible exact utf16_Encode.mono _ _)
      | (with_reducible exact LeO.refl _)
      | (with_reducible exact LeO.none _)
      | (with_reducible refine LeO.ite ?_ ?_)
      | (with_reducible refine LeO.bind ?_ (fun _ => ?_))
      | exact ih0 _ _ _ _
      | exact otto_builtinShouldEscape.mono _ _
      | exact utf16_Encode.mono _ _
      | exact LeO.none _
      | refine LeO.ite ?_ ?_
      | refine LeO.bind ?_ (fun _ => ?_)
def otto_builtinEscape.T9 : Bool × List (List Nat × List Nat) := (true, [([], []), ([], []), ([1], [1]), ([2], [2]), ([], []), ([4], [4]), ([5], [5]), ([3, 6], [3, 6]), ([0, 7], [0, 7]), ([8, 8, 0, 1, 2, 3, 4, 5, 6, 7, 8], [0, 8])])
def otto_builtinEscape.B9 : List Nat := [0, 0, 2, 6, 0, 16, 48, 126, 255, 511]
theorem otto_builtinEscape.tab9 : rtab .any (opsOf Tryd.f18 9) = otto_builtinEscape.T9 := by kernel_rfl
theorem otto_builtinEscape.bits9 : waitsOk otto_builtinEscape.T9.2 otto_builtinEscape.B9 = true := by kernel_rfl
def otto_builtinEscape.T10 : Bool × List (List Nat × List Nat) := (true, [([], []), ([], []), ([1], [1]), ([2], [2]), ([], []), ([4], [4]), ([5], [5]), ([6], [6]), ([], []), ([8], [8]), ([9], [9]), ([10], [10]), ([], []), ([12], [12]), ([13], [13]), ([3, 7, 11, 14], [3, 7, 11, 14]), ([0, 15], [0, 15]), ([16, 16, 0, 1, 2, 3, 4, 5, 6, 7, 8, 9, 10, 11, 12, 13, 14, 15, 16], [0, 16])])
def otto_builtinEscape.B10 : List Nat := [0, 0, 2, 6, 0, 16, 48, 112, 0, 256, 768, 1792, 0, 4096, 12288, 32766, 65535, 131071]
theorem otto_builtinEscape.tab10 : rtab .any (opsOf Tryd.f18 10) = otto_builtinEscape.T10 := by kernel_rfl
theorem otto_builtinEscape.bits10 : waitsOk otto_builtinEscape.T10.2 otto_builtinEscape.B10 = true := by kernel_rfl
set_option maxHeartbeats 8000000 in
set_option maxRecDepth 100000 in
theorem otto_builtinEscape.calls (k : Nat) (a0 : ByteArray) (r : ByteArray) (w : World) (h : otto_builtinEscape.f k a0 = some r) :
    Calls Tryd.prog 18 #[.string a0] w fun e w' => e = .returned (.string r) ∧ Below w.heap.size w w' := by
  have HB := Aside0.mk (Below.refl w.heap.size w)
  have H : (if 0 ≤ (a0.size : Int) then (if ((a0.size : Int) : Int).toNat ≤ 281474976710656 then (otto_builtinEscape.l0 k a0 (([] : List Int)) (a0.size : Int) 0) else (none)) else (none)) = some r := h
  clear h
  by_cases c2 : 0 ≤ (a0.size : Int)
  · rw [if_pos c2] at H
    have c2b0 := eq_true c2
    have c2b1 : decide (0 ≤ (a0.size : Int)) = true := decide_eq_true c2
    clear c2
    by_cases c3 : ((a0.size : Int) : Int).toNat ≤ 281474976710656
    · rw [if_pos c3] at H
      have c3b0 := eq_true c3
      have c3b1 : decide (((a0.size : Int) : Int).toNat ≤ 281474976710656) = true := decide_eq_true c3
      clear c3
      obtain ⟨y132, hy132⟩ : ∃ y_ : List Int, y_ = (([] : List Int)) := ⟨_, rfl⟩
      replace H : (otto_builtinEscape.l0 k a0 y132 (a0.size : Int) 0) = some r := by first | (rw [hy132]; with_reducible exact H) | (have H2_ := (Option.bind_some _ _).symm.trans H; rw [hy132]; with_reducible exact H2_) | (have H2_ := (Option.bind_some _ _).symm.trans H; with_reducible exact H2_) | with_reducible exact H | (rw [hy132]; exact H) | exact H
      have Ny132 := Aside0.mk hy132
      clear hy132
      have H' := Aside0.mk H
      clear H
      go_enter Tryd.func18, Tryd.ntmps18
      go_wp2_with (first | ((with_reducible refine gate_dst (N := 11) rfl ?_); refine R_makecap (Kd.int .u8) _ 5 rfl (N := 11) rfl 29 _ _ rfl (a0.size : Int) rfl rfl Tryd.underlying29 (.int .u8 0) 1 info5 (by decide) (by omega) (ok := fun _ => True) (_okp := fun _ => True) trivial (of_decide_eq_true (by first | (with_reducible assumption) | assumption)) (Nat.le_trans (Nat.mul_le_mul_right _ (of_decide_eq_true (by first | (with_reducible assumption) | assumption) : (a0.size : Int).toNat ≤ 281474976710656)) (by omega)) (Below.refl _ _) (Nat.le_refl _) ?_; intro v133 w4 ho5 hb hg_ hnew_; clear hg_ hnew_; (first | rw [← Ny132.out] at ho5 | (simp only [Int.reduceToNat] at ho5; rw [← Ny132.out] at ho5)); have n0_ := Aside0.mk (Kd.R_lower ho5 (below_size (by repeat (first | (with_reducible first | exact HB.out | apply below_alloc | apply pw_below_drewN | apply below_drew1) | exact HB.out)))); have n1_ := Aside0.mk (below_step (by repeat (first | (with_reducible first | exact HB.out | apply below_alloc | apply pw_below_drewN | apply below_drew1) | exact HB.out)) hb); clear HB; have HO134 := n0_; have HB := n1_; clear n0_ n1_; clear hb ho5))
      go_loopg [3, 5] k (fun kq v3 v5 w' => ∃ (x3_1 : List Int) (x5_1 : Int), v5 = .int .i64 x5_1 ∧ Aside0 (otto_builtinEscape.l0 kq a0 x3_1 (a0.size : Int) x5_1 = some r) ∧ Aside0 (kq ≤ k) ∧ Aside0 (Kd.R (Kd.int .u8) 5 w' w.heap.size (fun _ => True) v3 x3_1) ∧ Aside0 (Below w.heap.size w w'))
      case atStart => exact ⟨(y132), (0), (by first | rfl | (simp; done) | (simp [*]; done)), H', ⟨Nat.le_refl _⟩, ⟨by (with_reducible repeat (first | apply Kd.R_alloc | apply Kd.R_drewN | apply Kd.R_drew)); exact HO134.out⟩, ⟨by repeat (first | (with_reducible first | exact HB.out | apply below_alloc | apply pw_below_drewN | apply below_drew1) | exact HB.out)⟩⟩
      case round =>
        clear H'
        try clear c1
        try clear c2
        try clear c2b0
        try clear c2b1
        try clear p2
        try clear c3
        try clear c3b0
        try clear c3b1
        obtain ⟨x3_1, x5_1, rfl, HA, HK1, HO_3, HB⟩ := hrel
        cases gk with
        | zero => exact absurd HA.out (by simp [otto_builtinEscape.l0])
        | succ k1 =>
          have H := HA.out
          clear HA
          simp only [otto_builtinEscape.l0] at H
          by_cases c6 : x5_1 < (a0.size : Int)
          · rw [if_pos c6] at H
            have c6b0 : decide (x5_1 < (a0.size : Int)) = true := decide_eq_true c6
            clear c6
            by_cases c7 : 0 ≤ x5_1
            · rw [if_pos c7] at H
              have c7b0 : decide (0 ≤ x5_1) = true := decide_eq_true c7
              clear c7
              by_cases c8 : x5_1 < (a0.size : Int)
              · rw [if_pos c8] at H
                have c8b0 : decide (x5_1 < (a0.size : Int)) = true := decide_eq_true c8
                clear c8
                replace H := Option.bind_eq_some_iff.mp H
                obtain ⟨t135, A100, H⟩ := H
                replace H : (if t135 = true then (if x5_1 ≤ (a0.size : Int) then ((utf8_DecodeRuneInString.f (a0.extract (x5_1 : Int).toNat a0.size)).bind fun bt136 => ((utf16_Encode.f k1 (([bt136.1] : List Int))).bind fun t141 => (if 0 < (t141.length : Int) then (if 256 > (rd t141 0) then (if 0 ≤ ((rd t141 0) / 16) then (if ((rd t141 0) / 16) < 16 then (if 0 ≤ (Go.bits .and .u16 (rd t141 0) 15) then (if (Go.bits .and .u16 (rd t141 0) 15) < 16 then ((some (([37, bt (⟨#[48, 49, 50, 51, 52, 53, 54, 55, 56, 57, 65, 66, 67, 68, 69, 70]⟩ : ByteArray) ((rd t141 0) / 16), bt (⟨#[48, 49, 50, 51, 52, 53, 54, 55, 56, 57, 65, 66, 67, 68, 69, 70]⟩ : ByteArray) (Go.bits .and .u16 (rd t141 0) 15)] : List Int) : List Int)).bind fun y145 => (if x3_1.length + y145.length < 140737488355328 then (otto_builtinEscape.l0 k1 a0 (x3_1 ++ y145) (a0.size : Int) (wrap64 (x5_1 + bt136.2))) else (none))) else (none)) else (none)) else (none)) else (none)) else (if 0 ≤ ((rd t141 0) / 4096) then (if ((rd t141 0) / 4096) < 16 then (if 0 ≤ (Go.bits .and .u16 ((rd t141 0) / 256) 15) then (if (Go.bits .and .u16 ((rd t141 0) / 256) 15) < 16 then (if 0 ≤ (Go.bits .and .u16 ((rd t141 0) / 16) 15) then (if (Go.bits .and .u16 ((rd t141 0) / 16) 15) < 16 then (if 0 ≤ (Go.bits .and .u16 (rd t141 0) 15) then (if (Go.bits .and .u16 (rd t141 0) 15) < 16 then ((some (([37, 117, bt (⟨#[48, 49, 50, 51, 52, 53, 54, 55, 56, 57, 65, 66, 67, 68, 69, 70]⟩ : ByteArray) ((rd t141 0) / 4096), bt (⟨#[48, 49, 50, 51, 52, 53, 54, 55, 56, 57, 65, 66, 67, 68, 69, 70]⟩ : ByteArray) (Go.bits .and .u16 ((rd t141 0) / 256) 15), bt (⟨#[48, 49, 50, 51, 52, 53, 54, 55, 56, 57, 65, 66, 67, 68, 69, 70]⟩ : ByteArray) (Go.bits .and .u16 ((rd t141 0) / 16) 15), bt (⟨#[48, 49, 50, 51, 52, 53, 54, 55, 56, 57, 65, 66, 67, 68, 69, 70]⟩ : ByteArray) (Go.bits .and .u16 (rd t141 0) 15)] : List Int) : List Int)).bind fun y151 => (if x3_1.length + y151.length < 140737488355328 then (otto_builtinEscape.l0 k1 a0 (x3_1 ++ y151) (a0.size : Int) (wrap64 (x5_1 + bt136.2))) else (none))) else (none)) else (none)) else (none)) else (none)) else (none)) else (none)) else (none)) else (none))) else (none)))) else (none)) else (if x3_1.length < 140737488355328 then (otto_builtinEscape.l0 k1 a0 (x3_1 ++ [bt a0 x5_1]) (a0.size : Int) (wrap64 (x5_1 + 1))) else (none))) = some r := H
                have A10 := Aside0.mk A100
                clear A100
                by_cases c11 : t135 = true
                · subst c11
                  have H1 : (if x5_1 ≤ (a0.size : Int) then ((utf8_DecodeRuneInString.f (a0.extract (x5_1 : Int).toNat a0.size)).bind fun bt136 => ((utf16_Encode.f k1 (([bt136.1] : List Int))).bind fun t141 => (if 0 < (t141.length : Int) then (if 256 > (rd t141 0) then (if 0 ≤ ((rd t141 0) / 16) then (if ((rd t141 0) / 16) < 16 then (if 0 ≤ (Go.bits .and .u16 (rd t141 0) 15) then (if (Go.bits .and .u16 (rd t141 0) 15) < 16 then ((some (([37, bt (⟨#[48, 49, 50, 51, 52, 53, 54, 55, 56, 57, 65, 66, 67, 68, 69, 70]⟩ : ByteArray) ((rd t141 0) / 16), bt (⟨#[48, 49, 50, 51, 52, 53, 54, 55, 56, 57, 65, 66, 67, 68, 69, 70]⟩ : ByteArray) (Go.bits .and .u16 (rd t141 0) 15)] : List Int) : List Int)).bind fun y145 => (if x3_1.length + y145.length < 140737488355328 then (otto_builtinEscape.l0 k1 a0 (x3_1 ++ y145) (a0.size : Int) (wrap64 (x5_1 + bt136.2))) else (none))) else (none)) else (none)) else (none)) else (none)) else (if 0 ≤ ((rd t141 0) / 4096) then (if ((rd t141 0) / 4096) < 16 then (if 0 ≤ (Go.bits .and .u16 ((rd t141 0) / 256) 15) then (if (Go.bits .and .u16 ((rd t141 0) / 256) 15) < 16 then (if 0 ≤ (Go.bits .and .u16 ((rd t141 0) / 16) 15) then (if (Go.bits .and .u16 ((rd t141 0) / 16) 15) < 16 then (if 0 ≤ (Go.bits .and .u16 (rd t141 0) 15) then (if (Go.bits .and .u16 (rd t141 0) 15) < 16 then ((some (([37, 117, bt (⟨#[48, 49, 50, 51, 52, 53, 54, 55, 56, 57, 65, 66, 67, 68, 69, 70]⟩ : ByteArray) ((rd t141 0) / 4096), bt (⟨#[48, 49, 50, 51, 52, 53, 54, 55, 56, 57, 65, 66, 67, 68, 69, 70]⟩ : ByteArray) (Go.bits .and .u16 ((rd t141 0) / 256) 15), bt (⟨#[48, 49, 50, 51, 52, 53, 54, 55, 56, 57, 65, 66, 67, 68, 69, 70]⟩ : ByteArray) (Go.bits .and .u16 ((rd t141 0) / 16) 15), bt (⟨#[48, 49, 50, 51, 52, 53, 54, 55, 56, 57, 65, 66, 67, 68, 69, 70]⟩ : ByteArray) (Go.bits .and .u16 (rd t141 0) 15)] : List Int) : List Int)).bind fun y151 => (if x3_1.length + y151.length < 140737488355328 then (otto_builtinEscape.l0 k1 a0 (x3_1 ++ y151) (a0.size : Int) (wrap64 (x5_1 + bt136.2))) else (none))) else (none)) else (none)) else (none)) else (none)) else (none)) else (none)) else (none)) else (none))) else (none)))) else (none)) = some r := by rw [if_pos rfl] at H; exact H
                  clear H
                  have H := H1
                  clear H1
                  have c12b0 := eq_true (of_decide_eq_true (by first | (with_reducible assumption) | assumption) : 0 ≤ x5_1)
                  by_cases c13 : x5_1 ≤ (a0.size : Int)
                  · rw [if_pos c13] at H
                    have c13b0 := eq_true c13
                    have c13b1 : decide (x5_1 ≤ (a0.size : Int)) = true := decide_eq_true c13
                    clear c13
                    replace H := Option.bind_eq_some_iff.mp H
                    obtain ⟨⟨t136, t137⟩, A140, H⟩ := H
                    replace H : ((utf16_Encode.f k1 (([t136] : List Int))).bind fun t141 => (if 0 < (t141.length : Int) then (if 256 > (rd t141 0) then (if 0 ≤ ((rd t141 0) / 16) then (if ((rd t141 0) / 16) < 16 then (if 0 ≤ (Go.bits .and .u16 (rd t141 0) 15) then (if (Go.bits .and .u16 (rd t141 0) 15) < 16 then ((some (([37, bt (⟨#[48, 49, 50, 51, 52, 53, 54, 55, 56, 57, 65, 66, 67, 68, 69, 70]⟩ : ByteArray) ((rd t141 0) / 16), bt (⟨#[48, 49, 50, 51, 52, 53, 54, 55, 56, 57, 65, 66, 67, 68, 69, 70]⟩ : ByteArray) (Go.bits .and .u16 (rd t141 0) 15)] : List Int) : List Int)).bind fun y145 => (if x3_1.length + y145.length < 140737488355328 then (otto_builtinEscape.l0 k1 a0 (x3_1 ++ y145) (a0.size : Int) (wrap64 (x5_1 + t137))) else (none))) else (none)) else (none)) else (none)) else (none)) else (if 0 ≤ ((rd t141 0) / 4096) then (if ((rd t141 0) / 4096) < 16 then (if 0 ≤ (Go.bits .and .u16 ((rd t141 0) / 256) 15) then (if (Go.bits .and .u16 ((rd t141 0) / 256) 15) < 16 then (if 0 ≤ (Go.bits .and .u16 ((rd t141 0) / 16) 15) then (if (Go.bits .and .u16 ((rd t141 0) / 16) 15) < 16 then (if 0 ≤ (Go.bits .and .u16 (rd t141 0) 15) then (if (Go.bits .and .u16 (rd t141 0) 15) < 16 then ((some (([37, 117, bt (⟨#[48, 49, 50, 51, 52, 53, 54, 55, 56, 57, 65, 66, 67, 68, 69, 70]⟩ : ByteArray) ((rd t141 0) / 4096), bt (⟨#[48, 49, 50, 51, 52, 53, 54, 55, 56, 57, 65, 66, 67, 68, 69, 70]⟩ : ByteArray) (Go.bits .and .u16 ((rd t141 0) / 256) 15), bt (⟨#[48, 49, 50, 51, 52, 53, 54, 55, 56, 57, 65, 66, 67, 68, 69, 70]⟩ : ByteArray) (Go.bits .and .u16 ((rd t141 0) / 16) 15), bt (⟨#[48, 49, 50, 51, 52, 53, 54, 55, 56, 57, 65, 66, 67, 68, 69, 70]⟩ : ByteArray) (Go.bits .and .u16 (rd t141 0) 15)] : List Int) : List Int)).bind fun y151 => (if x3_1.length + y151.length < 140737488355328 then (otto_builtinEscape.l0 k1 a0 (x3_1 ++ y151) (a0.size : Int) (wrap64 (x5_1 + t137))) else (none))) else (none)) else (none)) else (none)) else (none)) else (none)) else (none)) else (none)) else (none))) else (none))) = some r := H
                    have A14 := Aside0.mk A140
                    clear A140
                    obtain ⟨y138, hy138⟩ : ∃ y_ : List Int, y_ = (([t136] : List Int)) := ⟨_, rfl⟩
                    replace H : ((utf16_Encode.f k1 y138).bind fun t141 => (if 0 < (t141.length : Int) then (if 256 > (rd t141 0) then (if 0 ≤ ((rd t141 0) / 16) then (if ((rd t141 0) / 16) < 16 then (if 0 ≤ (Go.bits .and .u16 (rd t141 0) 15) then (if (Go.bits .and .u16 (rd t141 0) 15) < 16 then ((some (([37, bt (⟨#[48, 49, 50, 51, 52, 53, 54, 55, 56, 57, 65, 66, 67, 68, 69, 70]⟩ : ByteArray) ((rd t141 0) / 16), bt (⟨#[48, 49, 50, 51, 52, 53, 54, 55, 56, 57, 65, 66, 67, 68, 69, 70]⟩ : ByteArray) (Go.bits .and .u16 (rd t141 0) 15)] : List Int) : List Int)).bind fun y145 => (if x3_1.length + y145.length < 140737488355328 then (otto_builtinEscape.l0 k1 a0 (x3_1 ++ y145) (a0.size : Int) (wrap64 (x5_1 + t137))) else (none))) else (none)) else (none)) else (none)) else (none)) else (if 0 ≤ ((rd t141 0) / 4096) then (if ((rd t141 0) / 4096) < 16 then (if 0 ≤ (Go.bits .and .u16 ((rd t141 0) / 256) 15) then (if (Go.bits .and .u16 ((rd t141 0) / 256) 15) < 16 then (if 0 ≤ (Go.bits .and .u16 ((rd t141 0) / 16) 15) then (if (Go.bits .and .u16 ((rd t141 0) / 16) 15) < 16 then (if 0 ≤ (Go.bits .and .u16 (rd t141 0) 15) then (if (Go.bits .and .u16 (rd t141 0) 15) < 16 then ((some (([37, 117, bt (⟨#[48, 49, 50, 51, 52, 53, 54, 55, 56, 57, 65, 66, 67, 68, 69, 70]⟩ : ByteArray) ((rd t141 0) / 4096), bt (⟨#[48, 49, 50, 51, 52, 53, 54, 55, 56, 57, 65, 66, 67, 68, 69, 70]⟩ : ByteArray) (Go.bits .and .u16 ((rd t141 0) / 256) 15), bt (⟨#[48, 49, 50, 51, 52, 53, 54, 55, 56, 57, 65, 66, 67, 68, 69, 70]⟩ : ByteArray) (Go.bits .and .u16 ((rd t141 0) / 16) 15), bt (⟨#[48, 49, 50, 51, 52, 53, 54, 55, 56, 57, 65, 66, 67, 68, 69, 70]⟩ : ByteArray) (Go.bits .and .u16 (rd t141 0) 15)] : List Int) : List Int)).bind fun y151 => (if x3_1.length + y151.length < 140737488355328 then (otto_builtinEscape.l0 k1 a0 (x3_1 ++ y151) (a0.size : Int) (wrap64 (x5_1 + t137))) else (none))) else (none)) else (none)) else (none)) else (none)) else (none)) else (none)) else (none)) else (none))) else (none))) = some r := by first | (rw [hy138]; with_reducible exact H) | (have H2_ := (Option.bind_some _ _).symm.trans H; rw [hy138]; with_reducible exact H2_) | (have H2_ := (Option.bind_some _ _).symm.trans H; with_reducible exact H2_) | with_reducible exact H | (rw [hy138]; exact H) | exact H
                    have Ny138 := Aside0.mk hy138
                    clear hy138
                    replace H := Option.bind_eq_some_iff.mp H
                    obtain ⟨t141, A150, H⟩ := H
                    replace H : (if 0 < (t141.length : Int) then (if 256 > (rd t141 0) then (if 0 ≤ ((rd t141 0) / 16) then (if ((rd t141 0) / 16) < 16 then (if 0 ≤ (Go.bits .and .u16 (rd t141 0) 15) then (if (Go.bits .and .u16 (rd t141 0) 15) < 16 then ((some (([37, bt (⟨#[48, 49, 50, 51, 52, 53, 54, 55, 56, 57, 65, 66, 67, 68, 69, 70]⟩ : ByteArray) ((rd t141 0) / 16), bt (⟨#[48, 49, 50, 51, 52, 53, 54, 55, 56, 57, 65, 66, 67, 68, 69, 70]⟩ : ByteArray) (Go.bits .and .u16 (rd t141 0) 15)] : List Int) : List Int)).bind fun y145 => (if x3_1.length + y145.length < 140737488355328 then (otto_builtinEscape.l0 k1 a0 (x3_1 ++ y145) (a0.size : Int) (wrap64 (x5_1 + t137))) else (none))) else (none)) else (none)) else (none)) else (none)) else (if 0 ≤ ((rd t141 0) / 4096) then (if ((rd t141 0) / 4096) < 16 then (if 0 ≤ (Go.bits .and .u16 ((rd t141 0) / 256) 15) then (if (Go.bits .and .u16 ((rd t141 0) / 256) 15) < 16 then (if 0 ≤ (Go.bits .and .u16 ((rd t141 0) / 16) 15) then (if (Go.bits .and .u16 ((rd t141 0) / 16) 15) < 16 then (if 0 ≤ (Go.bits .and .u16 (rd t141 0) 15) then (if (Go.bits .and .u16 (rd t141 0) 15) < 16 then ((some (([37, 117, bt (⟨#[48, 49, 50, 51, 52, 53, 54, 55, 56, 57, 65, 66, 67, 68, 69, 70]⟩ : ByteArray) ((rd t141 0) / 4096), bt (⟨#[48, 49, 50, 51, 52, 53, 54, 55, 56, 57, 65, 66, 67, 68, 69, 70]⟩ : ByteArray) (Go.bits .and .u16 ((rd t141 0) / 256) 15), bt (⟨#[48, 49, 50, 51, 52, 53, 54, 55, 56, 57, 65, 66, 67, 68, 69, 70]⟩ : ByteArray) (Go.bits .and .u16 ((rd t141 0) / 16) 15), bt (⟨#[48, 49, 50, 51, 52, 53, 54, 55, 56, 57, 65, 66, 67, 68, 69, 70]⟩ : ByteArray) (Go.bits .and .u16 (rd t141 0) 15)] : List Int) : List Int)).bind fun y151 => (if x3_1.length + y151.length < 140737488355328 then (otto_builtinEscape.l0 k1 a0 (x3_1 ++ y151) (a0.size : Int) (wrap64 (x5_1 + t137))) else (none))) else (none)) else (none)) else (none)) else (none)) else (none)) else (none)) else (none)) else (none))) else (none)) = some r := H
                    have A15 := Aside0.mk A150
                    clear A150
                    by_cases c16 : 0 < (t141.length : Int)
                    · rw [if_pos c16] at H
                      have c16b0 : decide (0 < (t141.length : Int)) = true := decide_eq_true c16
                      have c16b1 : decide (0 < t141.length) = true := decide_eq_true (by omega)
                      clear c16
                      by_cases c17 : 256 > (rd t141 0)
                      · rw [if_pos c17] at H
                        have c17b0 : decide ((rd t141 0) < 256) = true := decide_eq_true c17
                        clear c17
                        obtain ⟨ji18, hji18⟩ : ∃ j_ : Int, ((rd t141 0) / 16) = j_ := ⟨_, rfl⟩
                        replace H : (if 0 ≤ (ji18) then (if (ji18) < 16 then (if 0 ≤ (Go.bits .and .u16 (rd t141 0) 15) then (if (Go.bits .and .u16 (rd t141 0) 15) < 16 then ((some (([37, bt (⟨#[48, 49, 50, 51, 52, 53, 54, 55, 56, 57, 65, 66, 67, 68, 69, 70]⟩ : ByteArray) (ji18), bt (⟨#[48, 49, 50, 51, 52, 53, 54, 55, 56, 57, 65, 66, 67, 68, 69, 70]⟩ : ByteArray) (Go.bits .and .u16 (rd t141 0) 15)] : List Int) : List Int)).bind fun y145 => (if x3_1.length + y145.length < 140737488355328 then (otto_builtinEscape.l0 k1 a0 (x3_1 ++ y145) (a0.size : Int) (wrap64 (x5_1 + t137))) else (none))) else (none)) else (none)) else (none)) else (none)) = some r := by first | (rw [hji18] at H; exact H) | (simp only [hji18] at H ⊢; exact H)
                        (try rw [hji18] at A10)
                        (try rw [hji18] at A14)
                        (try rw [hji18] at A15)
                        by_cases c19 : 0 ≤ (ji18)
                        · rw [if_pos c19] at H
                          have c19b0 : decide (0 ≤ (ji18)) = true := decide_eq_true c19
                          clear c19
                          by_cases c20 : (ji18) < 16
                          · rw [if_pos c20] at H
                            have c20b0 : decide ((ji18) < 16) = true := decide_eq_true c20
                            clear c20
                            by_cases c22 : 0 ≤ (Go.bits .and .u16 (rd t141 0) 15)
                            · rw [if_pos c22] at H
                              have c22b0 : decide (0 ≤ (Go.bits .and .u16 (rd t141 0) 15)) = true := decide_eq_true c22
                              clear c22
                              by_cases c23 : (Go.bits .and .u16 (rd t141 0) 15) < 16
                              · rw [if_pos c23] at H
                                have c23b0 : decide ((Go.bits .and .u16 (rd t141 0) 15) < 16) = true := decide_eq_true c23
                                clear c23
                                obtain ⟨y145, hy145⟩ : ∃ y_ : List Int, y_ = (([37, bt (⟨#[48, 49, 50, 51, 52, 53, 54, 55, 56, 57, 65, 66, 67, 68, 69, 70]⟩ : ByteArray) (ji18), bt (⟨#[48, 49, 50, 51, 52, 53, 54, 55, 56, 57, 65, 66, 67, 68, 69, 70]⟩ : ByteArray) (Go.bits .and .u16 (rd t141 0) 15)] : List Int)) := ⟨_, rfl⟩
                                replace H : (if x3_1.length + y145.length < 140737488355328 then (otto_builtinEscape.l0 k1 a0 (x3_1 ++ y145) (a0.size : Int) (wrap64 (x5_1 + t137))) else (none)) = some r := by first | (rw [hy145]; with_reducible exact H) | (have H2_ := (Option.bind_some _ _).symm.trans H; rw [hy145]; with_reducible exact H2_) | (have H2_ := (Option.bind_some _ _).symm.trans H; with_reducible exact H2_) | with_reducible exact H | (rw [hy145]; exact H) | exact H
                                have Ny145 := Aside0.mk hy145
                                clear hy145
                                by_cases c25 : x3_1.length + y145.length < 140737488355328
                                · rw [if_pos c25] at H
                                  have LMc25 := Aside0.mk c25
                                  clear c25
                                  obtain ⟨y148, hy148⟩ : ∃ y_ : List Int, y_ = (x3_1 ++ y145) := ⟨_, rfl⟩
                                  replace H : (otto_builtinEscape.l0 k1 a0 y148 (a0.size : Int) (wrap64 (x5_1 + t137))) = some r := by first | (rw [hy148]; with_reducible exact H) | (have H2_ := (Option.bind_some _ _).symm.trans H; rw [hy148]; with_reducible exact H2_) | (have H2_ := (Option.bind_some _ _).symm.trans H; with_reducible exact H2_) | with_reducible exact H | (rw [hy148]; exact H) | exact H
                                  have Ny148 := Aside0.mk hy148
                                  clear hy148
                                  have H' := Aside0.mk H
                                  clear H
                                  have p9 : 0 ≤ (x5_1 : Int) := of_decide_eq_true (by first | (with_reducible assumption) | assumption)
                                  have q9 : x5_1 < (a0.size : Int) := of_decide_eq_true (by first | (with_reducible assumption) | assumption)
                                  have hx9 := bt_at a0 x5_1
                                  replace p9 := eq_true p9
                                  replace q9 := eq_true q9
                                  try go_wp2_with (first | ((with_reducible refine gate_callee (f := 20) rfl ?_); refine goesL_ (some 20) rfl rfl Tryd.func20 (by kernel_rfl) rfl #[.int .u8 (bt a0 x5_1)] rfl (by (try simp only [List.map_toArray, List.map_cons, List.map_nil]); first | done | rfl | (simp only [List.length_drop, List.length_take]; rfl)) ?_; (with_reducible refine (otto_builtinShouldEscape.calls k1 (bt a0 x5_1) true _ A10.out).mono ?_); rintro e w' ⟨rfl, ⟨nd, rfl⟩⟩; refine ⟨_, rfl, ?_⟩) | ((with_reducible refine gate_callee (f := 21) rfl ?_); refine goesL_ (some 25) rfl rfl Tryd.func21 (by kernel_rfl) rfl #[.string (a0.extract (x5_1 : Int).toNat a0.size)] rfl (by (try simp only [List.map_toArray, List.map_cons, List.map_nil]); first | done | rfl | (simp only [List.length_drop, List.length_take]; rfl)) ?_; (with_reducible refine (utf8_DecodeRuneInString.calls (a0.extract (x5_1 : Int).toNat a0.size) t136 t137 _ A14.out).mono ?_); rintro e w' ⟨rfl, ⟨nd, rfl⟩⟩; refine ⟨_, rfl, ?_⟩) | ((with_reducible refine gate_dst (N := 29) rfl ?_); refine Kd.R_lit (Kd.int .i32) _ 21 ?hg (N := 29) ?hd (xs := ([t136] : List Int)) (inner := [.int .i32 t136]) (ok := fun _ => True) (okp := fun _ => True) ?hr ?hp (fun _ hk => hk) trivial (Below.refl _ _) (Nat.le_refl _) (by simp) ?_; (case hd => rfl); (case hg => rfl); (case hr => first | (go_simp; done) | (go_simp; rfl)); (case hp => exact (Reps.one (show Kd.M (Kd.int .i32) _ _ _ t136 [.int .i32 t136] from rfl) (Reps.none _ _))); intro v139 w26 ho27 hb hg_ hnew_; clear hg_ hnew_; (first | rw [← Ny138.out] at ho27 | (simp only [Int.reduceToNat] at ho27; rw [← Ny138.out] at ho27)); have n0_ := Aside0.mk (Kd.R_below (by (with_reducible repeat (first | apply Kd.R_alloc | apply Kd.R_drewN | apply Kd.R_drew)); exact HO_3.out) hb); have n1_ := Aside0.mk (Kd.R_lower ho27 (below_size (by repeat (first | (with_reducible first | exact HB.out | apply below_alloc | apply pw_below_drewN | apply below_drew1) | exact HB.out)))); have n2_ := Aside0.mk (below_step (by repeat (first | (with_reducible first | exact HB.out | apply below_alloc | apply pw_below_drewN | apply below_drew1) | exact HB.out)) hb); clear HO_3; clear HB; have HO_3 := n0_; have HO140 := n1_; have HB := n2_; clear n0_ n1_ n2_; clear hb ho27; obtain ⟨Ao28, co28, eo28⟩ := Kd.R_slice HO140.out; subst eo28) | ((with_reducible refine gate_callee (f := 22) rfl ?_); refine goesL_ (some 30) rfl rfl Tryd.func22 (by kernel_rfl) rfl #[.slice Ao28 y138.length co28] rfl (by (try simp only [List.map_toArray, List.map_cons, List.map_nil]); first | done | rfl | (simp only [List.length_drop, List.length_take]; rfl)) ?_; (with_reducible refine (utf16_Encode.calls k1 _ _ y138 t141 _ ?side1 ?side2 A15.out).mono ?_); (case side1 => repeat (first | exact (Kd.R_reads' HO140.out).2.2 | (with_reducible refine Kd.C_alloc ?_ _) | (with_reducible refine Kd.C_drewN ?_ _) | (with_reducible refine Kd.C_drew ?_))); (case side2 => exact (Kd.R_reads' HO140.out).2.1); rintro e w29 ⟨v142, rfl, ho0, hb⟩; refine ⟨_, rfl, ?_⟩; have n0_ := Aside0.mk (Kd.R_below (by (with_reducible repeat (first | apply Kd.R_alloc | apply Kd.R_drewN | apply Kd.R_drew)); exact HO_3.out) hb); have n1_ := Aside0.mk (Kd.R_below (by (with_reducible repeat (first | apply Kd.R_alloc | apply Kd.R_drewN | apply Kd.R_drew)); exact HO140.out) hb); have n2_ := Aside0.mk (Kd.R_lower ho0 (below_size (by repeat (first | (with_reducible first | exact HB.out | apply below_alloc | apply pw_below_drewN | apply below_drew1) | exact HB.out)))); have n3_ := Aside0.mk (below_step (by repeat (first | (with_reducible first | exact HB.out | apply below_alloc | apply pw_below_drewN | apply below_drew1) | exact HB.out)) hb); clear HO_3; clear HO140; clear HB; have HO_3 := n0_; have HO140 := n1_; have HO143 := n2_; have HB := n3_; clear n0_ n1_ n2_ n3_; (try clear hb); (try clear hb2); (try clear hk); (try clear hi); (try clear ho0); obtain ⟨Ao30, co30, eo30⟩ := Kd.R_slice HO143.out; subst eo30; have p144 : 0 ≤ (0 : Int) := (by omega); have q144 : 0 < (t141.length : Int) := of_decide_eq_true (by first | (with_reducible assumption) | assumption); obtain ⟨ad144, e144, hx144_0⟩ := Kd.at_int (Kd.R_reads' HO143.out).2.2 0 p144 q144; cases e144; have qi144 : (0 < t141.length) = True := eq_true (by omega); (try rw [show ((0 : Int)).toNat = 0 from rfl] at hx144_0); (try rw [Addr.add_zero'] at hx144_0); replace p144 := eq_true p144; replace q144 := eq_true q144))
                                  have n0_ := Aside0.mk (Kd.R_drew HO_3.out)
                                  have n1_ := Aside0.mk (Kd.R_drew HO140.out)
                                  have n2_ := Aside0.mk (Kd.R_drew HO143.out)
                                  have n3_ := Aside0.mk (below_drew1 HB.out)
                                  clear HO_3
                                  clear HO140
                                  clear HO143
                                  clear HB
                                  have HO_3 := n0_
                                  have HO140 := n1_
                                  have HO143 := n2_
                                  have HB := n3_
                                  clear n0_ n1_ n2_ n3_
                                  have p21 : 0 ≤ ((ji18) : Int) := of_decide_eq_true (by first | (with_reducible assumption) | assumption)
                                  have q21 : (ji18) < (16 : Int) := of_decide_eq_true (by first | (with_reducible assumption) | assumption)
                                  have hx21 := bt_at (⟨#[48, 49, 50, 51, 52, 53, 54, 55, 56, 57, 65, 66, 67, 68, 69, 70]⟩ : ByteArray) (ji18)
                                  replace p21 := eq_true p21
                                  replace q21 := eq_true q21
                                  have p24 : 0 ≤ ((Go.bits .and .u16 (rd t141 0) 15) : Int) := of_decide_eq_true (by first | (with_reducible assumption) | assumption)
                                  have q24 : (Go.bits .and .u16 (rd t141 0) 15) < (16 : Int) := of_decide_eq_true (by first | (with_reducible assumption) | assumption)
                                  have hx24 := bt_at (⟨#[48, 49, 50, 51, 52, 53, 54, 55, 56, 57, 65, 66, 67, 68, 69, 70]⟩ : ByteArray) (Go.bits .and .u16 (rd t141 0) 15)
                                  replace p24 := eq_true p24
                                  replace q24 := eq_true q24
                                  refine start_ (n := 10) (S := fun w' => True) (ds := []) #[false, false, false, false, false, false, false, false, false, false] (by kernel_rfl) rfl rfl trivial (fun hHeld => ?_); refine with_tabW otto_builtinEscape.tab9 otto_builtinEscape.bits9 (fun HT_ HW_ => ?_)
                                  generalize w29.drew = w31 at HO_3 HO140 HO143 HB hHeld ⊢
                                  refine pure_ (i := 0) (N := some 35) (v := ?_) (a' := ?_) #[true, false, false, false, false, false, false, false, false, false] rfl rfl (any_of HT_.out (by kernel_rfl)) (fun _ _ _ h => h) (Or.inl ⟨by rfl, ?_⟩) ?_ ?_
                                  rotate_left
                                  · intro w'
                                    go_simp
                                    with_reducible rfl
                                  rotate_left
                                  · simp only [Act.put, List.setIfInBounds_toArray, List.set_cons_zero, List.set_cons_succ, i64_w, i32_w]
                                    rfl
                                  refine pure_ (i := 1) (N := some 36) (v := ?_) (a' := ?_) #[true, true, false, false, false, false, false, false, false, false] rfl rfl (any_of HT_.out (by kernel_rfl)) (fun _ _ _ h => h) (Or.inl ⟨by rfl, ?_⟩) ?_ ?_
                                  rotate_left
                                  · intro w'
                                    go_simp
                                    with_reducible rfl
                                  rotate_left
                                  · simp only [Act.put, List.setIfInBounds_toArray, List.set_cons_zero, List.set_cons_succ, i64_w, i32_w]
                                    rfl
                                  refine pure_ (i := 2) (N := some 37) (v := ?_) (a' := ?_) #[true, true, true, false, false, false, false, false, false, false] rfl rfl (any_of HT_.out (by kernel_rfl)) (fun _ _ _ h => h) (Or.inl ⟨by rfl, ?_⟩) ?_ ?_
                                  rotate_left
                                  · intro w'
                                    go_simp
                                    with_reducible rfl
                                  rotate_left
                                  · simp only [Act.put, List.setIfInBounds_toArray, List.set_cons_zero, List.set_cons_succ, i64_w, i32_w]
                                    rfl
                                  refine pure_ (i := 4) (N := some 39) (v := ?_) (a' := ?_) #[true, true, true, false, true, false, false, false, false, false] rfl rfl (any_of HT_.out (by kernel_rfl)) (fun _ _ _ h => h) (Or.inl ⟨by rfl, ?_⟩) ?_ ?_
                                  rotate_left
                                  · intro w'
                                    go_simp
                                    with_reducible rfl
                                  rotate_left
                                  · simp only [Act.put, List.setIfInBounds_toArray, List.set_cons_zero, List.set_cons_succ, i64_w, i32_w]
                                    rfl
                                  refine pure_ (i := 5) (N := some 40) (v := ?_) (a' := ?_) #[true, true, true, false, true, true, false, false, false, false] rfl rfl (any_of HT_.out (by kernel_rfl)) (fun _ _ _ h => h) (Or.inl ⟨by rfl, ?_⟩) ?_ ?_
                                  rotate_left
                                  · intro w'
                                    go_simp
                                    with_reducible rfl
                                  rotate_left
                                  · simp only [Act.put, List.setIfInBounds_toArray, List.set_cons_zero, List.set_cons_succ, i64_w, i32_w]
                                    rfl
                                  refine take_ (i := 3) (N := some 38) (v := ?_) (a' := ?_) #[true, true, true, true, true, true, false, false, false, false] rfl rfl (take_ofW HT_.out HW_.out (by kernel_rfl)) (fun _ _ _ h => h) (Or.inl ⟨by rfl, ?_⟩) hHeld ?_ ?_
                                  rotate_left
                                  · intro w' _
                                    go_simp
                                    with_reducible rfl
                                  rotate_left
                                  · simp only [Act.put, List.setIfInBounds_toArray, List.set_cons_zero, List.set_cons_succ, i64_w, i32_w]
                                    rfl
                                  refine take_ (i := 6) (N := some 41) (v := ?_) (a' := ?_) #[true, true, true, true, true, true, true, false, false, false] rfl rfl (take_ofW HT_.out HW_.out (by kernel_rfl)) (fun _ _ _ h => h) (Or.inl ⟨by rfl, ?_⟩) hHeld ?_ ?_
                                  rotate_left
                                  · intro w' _
                                    go_simp
                                    with_reducible rfl
                                  rotate_left
                                  · simp only [Act.put, List.setIfInBounds_toArray, List.set_cons_zero, List.set_cons_succ, i64_w, i32_w]
                                    rfl
                                  refine one_ (i := 7) (N := some 42) #[true, true, true, true, true, true, true, true, false, false] rfl rfl (one_of HT_.out (by kernel_rfl)) (by decide) (fun K hK => ?_)
                                  refine Kd.R_lit_step (Kd.int .u8) _ 5 ?hg (N := 42) ?hd (xs := ([37, bt (⟨#[48, 49, 50, 51, 52, 53, 54, 55, 56, 57, 65, 66, 67, 68, 69, 70]⟩ : ByteArray) (ji18), bt (⟨#[48, 49, 50, 51, 52, 53, 54, 55, 56, 57, 65, 66, 67, 68, 69, 70]⟩ : ByteArray) (Go.bits .and .u16 (rd t141 0) 15)] : List Int)) (inner := [.int .u8 37, .int .u8 (bt (⟨#[48, 49, 50, 51, 52, 53, 54, 55, 56, 57, 65, 66, 67, 68, 69, 70]⟩ : ByteArray) (ji18)), .int .u8 (bt (⟨#[48, 49, 50, 51, 52, 53, 54, 55, 56, 57, 65, 66, 67, 68, 69, 70]⟩ : ByteArray) (Go.bits .and .u16 (rd t141 0) 15))]) (ok := fun _ => True) (okp := fun _ => True) ?hr ?hp (fun _ hk => hk) trivial (Below.refl _ _) (Nat.le_refl _) (by simp) ?_; (case hd => rfl); (case hg => rfl); (case hr => first | (go_simp; done) | (go_simp; rfl)); (case hp => exact (Reps.one (show Kd.M (Kd.int .u8) _ _ _ 37 [.int .u8 37] from rfl) (Reps.one (show Kd.M (Kd.int .u8) _ _ _ (bt (⟨#[48, 49, 50, 51, 52, 53, 54, 55, 56, 57, 65, 66, 67, 68, 69, 70]⟩ : ByteArray) (ji18)) [.int .u8 (bt (⟨#[48, 49, 50, 51, 52, 53, 54, 55, 56, 57, 65, 66, 67, 68, 69, 70]⟩ : ByteArray) (ji18))] from rfl) (Reps.one (show Kd.M (Kd.int .u8) _ _ _ (bt (⟨#[48, 49, 50, 51, 52, 53, 54, 55, 56, 57, 65, 66, 67, 68, 69, 70]⟩ : ByteArray) (Go.bits .and .u16 (rd t141 0) 15)) [.int .u8 (bt (⟨#[48, 49, 50, 51, 52, 53, 54, 55, 56, 57, 65, 66, 67, 68, 69, 70]⟩ : ByteArray) (Go.bits .and .u16 (rd t141 0) 15))] from rfl) (Reps.none _ _)))))
                                  intro v146 w32 ho33 hb hg_ hnew_
                                  clear hg_ hnew_
                                  (first | rw [← Ny145.out] at ho33 | (simp only [Int.reduceToNat] at ho33; rw [← Ny145.out] at ho33))
                                  have n0_ := Aside0.mk (Kd.R_elder' (by (with_reducible repeat (first | apply Kd.R_alloc | apply Kd.R_drewN | apply Kd.R_drew)); exact HO_3.out) (Kd.R_base ho33) hb)
                                  have n1_ := Aside0.mk (Kd.R_below (by (with_reducible repeat (first | apply Kd.R_alloc | apply Kd.R_drewN | apply Kd.R_drew)); exact HO140.out) hb)
                                  have n2_ := Aside0.mk (Kd.R_below (by (with_reducible repeat (first | apply Kd.R_alloc | apply Kd.R_drewN | apply Kd.R_drew)); exact HO143.out) hb)
                                  have n3_ := Aside0.mk (Kd.R_lower (Kd.R_new' ho33 (Kd.R_lt (by (with_reducible repeat (first | apply Kd.R_alloc | apply Kd.R_drewN | apply Kd.R_drew)); exact HO_3.out))) (below_size (by repeat (first | (with_reducible first | exact HB.out | apply below_alloc | apply pw_below_drewN | apply below_drew1) | exact HB.out))))
                                  have n4_ := Aside0.mk (below_step (by repeat (first | (with_reducible first | exact HB.out | apply below_alloc | apply pw_below_drewN | apply below_drew1) | exact HB.out)) hb)
                                  clear HO_3
                                  clear HO140
                                  clear HO143
                                  clear HB
                                  have HO_3 := n0_
                                  have HO140 := n1_
                                  have HO143 := n2_
                                  have HO147 := n3_
                                  have HB := n4_
                                  clear n0_ n1_ n2_ n3_ n4_
                                  clear hb ho33
                                  obtain ⟨Ao35, co35, eo35⟩ := Kd.R_slice HO147.out
                                  (first | subst eo35 | (injection eo35 with f1_ f2_ f3_; have f4_ := f1_.symm; have f5_ := f3_.symm; clear f1_ f2_ f3_; subst f4_; subst f5_))
                                  refine hK.out _ _ trivial (fun hHeld => ?_)
                                  clear hK K
                                  refine norm_ (a' := ?_) ?_ ?_
                                  rotate_left
                                  · show Act.put _ (some 42) _ = _
                                    simp only [Act.put, List.setIfInBounds_toArray, List.set_cons_zero, List.set_cons_succ, i64_w, i32_w]
                                    rfl
                                  refine one_ (i := 8) (N := some 43) #[true, true, true, true, true, true, true, true, true, false] rfl rfl (one_of HT_.out (by kernel_rfl)) (by decide) (fun K hK => ?_)
                                  refine Kd.R_append_rows_step (Kd.int .u8) (w0 := w) w.heap.size (by rfl) (.tmp 35) (.tmp 42) 29 5 (.int .u8 0) 1 rfl Tryd.underlying29 info5 rfl (by decide) (by omega) u3 x3_1 y145 _ _ _ (fun k_ => some k_ ≠ (.slice Ao35 y145.length co35 : Value).ownBlock) (fun _ => False) rfl rfl ?aO ?aR (fun _ _ h => h) (fun _ h => h.elim) ?aF ?aB ?aS ?aL ?_
                                  (case aR => repeat (first | exact (Kd.R_reads' HO147.out).2.2 | (with_reducible refine Kd.C_alloc ?_ _) | (with_reducible refine Kd.C_drewN ?_ _) | (with_reducible refine Kd.C_drew ?_)))
                                  (case aB => exact (by repeat (first | (with_reducible first | exact HB.out | apply below_alloc | apply pw_below_drewN | apply below_drew1) | exact HB.out)))
                                  (case aF => exact (fun k_ hk => Kd.fresh' (Kd.R_lt (by (with_reducible repeat (first | apply Kd.R_alloc | apply Kd.R_drewN | apply Kd.R_drew)); exact HO147.out)) k_ hk))
                                  (case aO => exact (by (with_reducible repeat (first | apply Kd.R_alloc | apply Kd.R_drewN | apply Kd.R_drew)); exact Kd.R_mono HO_3.out (fun _ hk => hk.2)))
                                  (case aS => exact (below_size (by repeat (first | (with_reducible first | exact HB.out | apply below_alloc | apply pw_below_drewN | apply below_drew1) | exact HB.out))))
                                  (case aL => have := LMc25.out; omega)
                                  intro v149 w34 ho hb hg hat
                                  rw [← Ny148.out] at ho
                                  have n0_ := Aside0.mk (Kd.R_over' (by (with_reducible repeat (first | apply Kd.R_alloc | apply Kd.R_drewN | apply Kd.R_drew)); exact HO140.out) (Kd.R_typed (by (with_reducible repeat (first | apply Kd.R_alloc | apply Kd.R_drewN | apply Kd.R_drew)); exact HO_3.out)) (by decide) hg)
                                  have n1_ := Aside0.mk (Kd.R_over' (by (with_reducible repeat (first | apply Kd.R_alloc | apply Kd.R_drewN | apply Kd.R_drew)); exact HO143.out) (Kd.R_typed (by (with_reducible repeat (first | apply Kd.R_alloc | apply Kd.R_drewN | apply Kd.R_drew)); exact HO_3.out)) (by decide) hg)
                                  have n2_ := Aside0.mk (Kd.R_after (ok := (fun _ => True)) (by (with_reducible repeat (first | apply Kd.R_alloc | apply Kd.R_drewN | apply Kd.R_drew)); exact HO147.out) hg hat)
                                  have n3_ := Aside0.mk (hb)
                                  have n4_ := Aside0.mk (ho)
                                  clear HO140
                                  clear HO143
                                  clear HO147
                                  clear HB
                                  clear HO_3
                                  have HO140 := n0_
                                  have HO143 := n1_
                                  have HO147 := n2_
                                  have HB := n3_
                                  have HO150 := n4_
                                  clear n0_ n1_ n2_ n3_ n4_
                                  clear ho hb hg hat
                                  refine hK.out _ _ trivial (fun hHeld => ?_)
                                  clear hK K
                                  refine norm_ (a' := ?_) ?_ ?_
                                  rotate_left
                                  · show Act.put _ (some 43) _ = _
                                    simp only [Act.put, List.setIfInBounds_toArray, List.set_cons_zero, List.set_cons_succ, i64_w, i32_w]
                                    rfl
                                  refine pure_ (i := 9) (N := some 3) (v := ?_) (a' := ?_) #[true, true, true, true, true, true, true, true, true, true] rfl rfl (any_of HT_.out (by kernel_rfl)) (fun _ _ _ h => h) (Or.inl ⟨by rfl, ?_⟩) ?_ ?_
                                  rotate_left
                                  · intro w'
                                    go_simp
                                    with_reducible rfl
                                  rotate_left
                                  · simp only [Act.put, List.setIfInBounds_toArray, List.set_cons_zero, List.set_cons_succ, i64_w, i32_w]
                                    rfl
                                  refine done_ (done_of HT_.out (by kernel_rfl)) ?_
                                  try go_wp2
                                  go_roundg k1
                                  case measure => have := HK1.out; omega
                                  case rel => exact ⟨(y148), (wrap64 (x5_1 + t137)), (by first | rfl | (simp; done) | (simp [*]; done)), H', ⟨by have := HK1.out; omega⟩, ⟨by (with_reducible repeat (first | apply Kd.R_alloc | apply Kd.R_drewN | apply Kd.R_drew)); exact Kd.R_mono HO150.out (fun _ hk => trivial)⟩, ⟨by repeat (first | (with_reducible first | exact HB.out | apply below_alloc | apply pw_below_drewN | apply below_drew1) | exact HB.out)⟩⟩
                                · rw [if_neg c25] at H
                                  exact absurd H (by simp)
                              · rw [if_neg c23] at H
                                exact absurd H (by simp)
                            · rw [if_neg c22] at H
                              exact absurd H (by simp)
                          · rw [if_neg c20] at H
                            exact absurd H (by simp)
                        · rw [if_neg c19] at H
                          exact absurd H (by simp)
                      · rw [if_neg c17] at H
                        have c17b0 : decide ((rd t141 0) < 256) = false := decide_eq_false c17
                        clear c17
                        obtain ⟨ji36, hji36⟩ : ∃ j_ : Int, ((rd t141 0) / 4096) = j_ := ⟨_, rfl⟩
                        replace H : (if 0 ≤ (ji36) then (if (ji36) < 16 then (if 0 ≤ (Go.bits .and .u16 ((rd t141 0) / 256) 15) then (if (Go.bits .and .u16 ((rd t141 0) / 256) 15) < 16 then (if 0 ≤ (Go.bits .and .u16 ((rd t141 0) / 16) 15) then (if (Go.bits .and .u16 ((rd t141 0) / 16) 15) < 16 then (if 0 ≤ (Go.bits .and .u16 (rd t141 0) 15) then (if (Go.bits .and .u16 (rd t141 0) 15) < 16 then ((some (([37, 117, bt (⟨#[48, 49, 50, 51, 52, 53, 54, 55, 56, 57, 65, 66, 67, 68, 69, 70]⟩ : ByteArray) (ji36), bt (⟨#[48, 49, 50, 51, 52, 53, 54, 55, 56, 57, 65, 66, 67, 68, 69, 70]⟩ : ByteArray) (Go.bits .and .u16 ((rd t141 0) / 256) 15), bt (⟨#[48, 49, 50, 51, 52, 53, 54, 55, 56, 57, 65, 66, 67, 68, 69, 70]⟩ : ByteArray) (Go.bits .and .u16 ((rd t141 0) / 16) 15), bt (⟨#[48, 49, 50, 51, 52, 53, 54, 55, 56, 57, 65, 66, 67, 68, 69, 70]⟩ : ByteArray) (Go.bits .and .u16 (rd t141 0) 15)] : List Int) : List Int)).bind fun y151 => (if x3_1.length + y151.length < 140737488355328 then (otto_builtinEscape.l0 k1 a0 (x3_1 ++ y151) (a0.size : Int) (wrap64 (x5_1 + t137))) else (none))) else (none)) else (none)) else (none)) else (none)) else (none)) else (none)) else (none)) else (none)) = some r := by first | (rw [hji36] at H; exact H) | (simp only [hji36] at H ⊢; exact H)
                        (try rw [hji36] at A10)
                        (try rw [hji36] at A14)
                        (try rw [hji36] at A15)
                        by_cases c37 : 0 ≤ (ji36)
                        · rw [if_pos c37] at H
                          have c37b0 : decide (0 ≤ (ji36)) = true := decide_eq_true c37
                          clear c37
                          by_cases c38 : (ji36) < 16
                          · rw [if_pos c38] at H
                            have c38b0 : decide ((ji36) < 16) = true := decide_eq_true c38
                            clear c38
                            obtain ⟨ji40, hji40⟩ : ∃ j_ : Int, (Go.bits .and .u16 ((rd t141 0) / 256) 15) = j_ := ⟨_, rfl⟩
                            replace H : (if 0 ≤ (ji40) then (if (ji40) < 16 then (if 0 ≤ (Go.bits .and .u16 ((rd t141 0) / 16) 15) then (if (Go.bits .and .u16 ((rd t141 0) / 16) 15) < 16 then (if 0 ≤ (Go.bits .and .u16 (rd t141 0) 15) then (if (Go.bits .and .u16 (rd t141 0) 15) < 16 then ((some (([37, 117, bt (⟨#[48, 49, 50, 51, 52, 53, 54, 55, 56, 57, 65, 66, 67, 68, 69, 70]⟩ : ByteArray) (ji36), bt (⟨#[48, 49, 50, 51, 52, 53, 54, 55, 56, 57, 65, 66, 67, 68, 69, 70]⟩ : ByteArray) (ji40), bt (⟨#[48, 49, 50, 51, 52, 53, 54, 55, 56, 57, 65, 66, 67, 68, 69, 70]⟩ : ByteArray) (Go.bits .and .u16 ((rd t141 0) / 16) 15), bt (⟨#[48, 49, 50, 51, 52, 53, 54, 55, 56, 57, 65, 66, 67, 68, 69, 70]⟩ : ByteArray) (Go.bits .and .u16 (rd t141 0) 15)] : List Int) : List Int)).bind fun y151 => (if x3_1.length + y151.length < 140737488355328 then (otto_builtinEscape.l0 k1 a0 (x3_1 ++ y151) (a0.size : Int) (wrap64 (x5_1 + t137))) else (none))) else (none)) else (none)) else (none)) else (none)) else (none)) else (none)) = some r := by first | (rw [hji40] at H; exact H) | (simp only [hji40] at H ⊢; exact H)
                            (try rw [hji40] at A10)
                            (try rw [hji40] at A14)
                            (try rw [hji40] at A15)
                            by_cases c41 : 0 ≤ (ji40)
                            · rw [if_pos c41] at H
                              have c41b0 : decide (0 ≤ (ji40)) = true := decide_eq_true c41
                              clear c41
                              by_cases c42 : (ji40) < 16
                              · rw [if_pos c42] at H
                                have c42b0 : decide ((ji40) < 16) = true := decide_eq_true c42
                                clear c42
                                obtain ⟨ji44, hji44⟩ : ∃ j_ : Int, (Go.bits .and .u16 ((rd t141 0) / 16) 15) = j_ := ⟨_, rfl⟩
                                replace H : (if 0 ≤ (ji44) then (if (ji44) < 16 then (if 0 ≤ (Go.bits .and .u16 (rd t141 0) 15) then (if (Go.bits .and .u16 (rd t141 0) 15) < 16 then ((some (([37, 117, bt (⟨#[48, 49, 50, 51, 52, 53, 54, 55, 56, 57, 65, 66, 67, 68, 69, 70]⟩ : ByteArray) (ji36), bt (⟨#[48, 49, 50, 51, 52, 53, 54, 55, 56, 57, 65, 66, 67, 68, 69, 70]⟩ : ByteArray) (ji40), bt (⟨#[48, 49, 50, 51, 52, 53, 54, 55, 56, 57, 65, 66, 67, 68, 69, 70]⟩ : ByteArray) (ji44), bt (⟨#[48, 49, 50, 51, 52, 53, 54, 55, 56, 57, 65, 66, 67, 68, 69, 70]⟩ : ByteArray) (Go.bits .and .u16 (rd t141 0) 15)] : List Int) : List Int)).bind fun y151 => (if x3_1.length + y151.length < 140737488355328 then (otto_builtinEscape.l0 k1 a0 (x3_1 ++ y151) (a0.size : Int) (wrap64 (x5_1 + t137))) else (none))) else (none)) else (none)) else (none)) else (none)) = some r := by first | (rw [hji44] at H; exact H) | (simp only [hji44] at H ⊢; exact H)
                                (try rw [hji44] at A10)
                                (try rw [hji44] at A14)
                                (try rw [hji44] at A15)
                                by_cases c45 : 0 ≤ (ji44)
                                · rw [if_pos c45] at H
                                  have c45b0 : decide (0 ≤ (ji44)) = true := decide_eq_true c45
                                  clear c45
                                  by_cases c46 : (ji44) < 16
                                  · rw [if_pos c46] at H
                                    have c46b0 : decide ((ji44) < 16) = true := decide_eq_true c46
                                    clear c46
                                    by_cases c48 : 0 ≤ (Go.bits .and .u16 (rd t141 0) 15)
                                    · rw [if_pos c48] at H
                                      have c48b0 : decide (0 ≤ (Go.bits .and .u16 (rd t141 0) 15)) = true := decide_eq_true c48
                                      clear c48
                                      by_cases c49 : (Go.bits .and .u16 (rd t141 0) 15) < 16
                                      · rw [if_pos c49] at H
                                        have c49b0 : decide ((Go.bits .and .u16 (rd t141 0) 15) < 16) = true := decide_eq_true c49
                                        clear c49
                                        obtain ⟨y151, hy151⟩ : ∃ y_ : List Int, y_ = (([37, 117, bt (⟨#[48, 49, 50, 51, 52, 53, 54, 55, 56, 57, 65, 66, 67, 68, 69, 70]⟩ : ByteArray) (ji36), bt (⟨#[48, 49, 50, 51, 52, 53, 54, 55, 56, 57, 65, 66, 67, 68, 69, 70]⟩ : ByteArray) (ji40), bt (⟨#[48, 49, 50, 51, 52, 53, 54, 55, 56, 57, 65, 66, 67, 68, 69, 70]⟩ : ByteArray) (ji44), bt (⟨#[48, 49, 50, 51, 52, 53, 54, 55, 56, 57, 65, 66, 67, 68, 69, 70]⟩ : ByteArray) (Go.bits .and .u16 (rd t141 0) 15)] : List Int)) := ⟨_, rfl⟩
                                        replace H : (if x3_1.length + y151.length < 140737488355328 then (otto_builtinEscape.l0 k1 a0 (x3_1 ++ y151) (a0.size : Int) (wrap64 (x5_1 + t137))) else (none)) = some r := by first | (rw [hy151]; with_reducible exact H) | (have H2_ := (Option.bind_some _ _).symm.trans H; rw [hy151]; with_reducible exact H2_) | (have H2_ := (Option.bind_some _ _).symm.trans H; with_reducible exact H2_) | with_reducible exact H | (rw [hy151]; exact H) | exact H
                                        have Ny151 := Aside0.mk hy151
                                        clear hy151
                                        by_cases c51 : x3_1.length + y151.length < 140737488355328
                                        · rw [if_pos c51] at H
                                          have LMc51 := Aside0.mk c51
                                          clear c51
                                          obtain ⟨y154, hy154⟩ : ∃ y_ : List Int, y_ = (x3_1 ++ y151) := ⟨_, rfl⟩
                                          replace H : (otto_builtinEscape.l0 k1 a0 y154 (a0.size : Int) (wrap64 (x5_1 + t137))) = some r := by first | (rw [hy154]; with_reducible exact H) | (have H2_ := (Option.bind_some _ _).symm.trans H; rw [hy154]; with_reducible exact H2_) | (have H2_ := (Option.bind_some _ _).symm.trans H; with_reducible exact H2_) | with_reducible exact H | (rw [hy154]; exact H) | exact H
                                          have Ny154 := Aside0.mk hy154
                                          clear hy154
                                          have H' := Aside0.mk H
                                          clear H
                                          have p9 : 0 ≤ (x5_1 : Int) := of_decide_eq_true (by first | (with_reducible assumption) | assumption)
                                          have q9 : x5_1 < (a0.size : Int) := of_decide_eq_true (by first | (with_reducible assumption) | assumption)
                                          have hx9 := bt_at a0 x5_1
                                          replace p9 := eq_true p9
                                          replace q9 := eq_true q9
                                          try go_wp2_with (first | ((with_reducible refine gate_callee (f := 20) rfl ?_); refine goesL_ (some 20) rfl rfl Tryd.func20 (by kernel_rfl) rfl #[.int .u8 (bt a0 x5_1)] rfl (by (try simp only [List.map_toArray, List.map_cons, List.map_nil]); first | done | rfl | (simp only [List.length_drop, List.length_take]; rfl)) ?_; (with_reducible refine (otto_builtinShouldEscape.calls k1 (bt a0 x5_1) true _ A10.out).mono ?_); rintro e w' ⟨rfl, ⟨nd, rfl⟩⟩; refine ⟨_, rfl, ?_⟩) | ((with_reducible refine gate_callee (f := 21) rfl ?_); refine goesL_ (some 25) rfl rfl Tryd.func21 (by kernel_rfl) rfl #[.string (a0.extract (x5_1 : Int).toNat a0.size)] rfl (by (try simp only [List.map_toArray, List.map_cons, List.map_nil]); first | done | rfl | (simp only [List.length_drop, List.length_take]; rfl)) ?_; (with_reducible refine (utf8_DecodeRuneInString.calls (a0.extract (x5_1 : Int).toNat a0.size) t136 t137 _ A14.out).mono ?_); rintro e w' ⟨rfl, ⟨nd, rfl⟩⟩; refine ⟨_, rfl, ?_⟩) | ((with_reducible refine gate_dst (N := 29) rfl ?_); refine Kd.R_lit (Kd.int .i32) _ 21 ?hg (N := 29) ?hd (xs := ([t136] : List Int)) (inner := [.int .i32 t136]) (ok := fun _ => True) (okp := fun _ => True) ?hr ?hp (fun _ hk => hk) trivial (Below.refl _ _) (Nat.le_refl _) (by simp) ?_; (case hd => rfl); (case hg => rfl); (case hr => first | (go_simp; done) | (go_simp; rfl)); (case hp => exact (Reps.one (show Kd.M (Kd.int .i32) _ _ _ t136 [.int .i32 t136] from rfl) (Reps.none _ _))); intro v139 w52 ho53 hb hg_ hnew_; clear hg_ hnew_; (first | rw [← Ny138.out] at ho53 | (simp only [Int.reduceToNat] at ho53; rw [← Ny138.out] at ho53)); have n0_ := Aside0.mk (Kd.R_below (by (with_reducible repeat (first | apply Kd.R_alloc | apply Kd.R_drewN | apply Kd.R_drew)); exact HO_3.out) hb); have n1_ := Aside0.mk (Kd.R_lower ho53 (below_size (by repeat (first | (with_reducible first | exact HB.out | apply below_alloc | apply pw_below_drewN | apply below_drew1) | exact HB.out)))); have n2_ := Aside0.mk (below_step (by repeat (first | (with_reducible first | exact HB.out | apply below_alloc | apply pw_below_drewN | apply below_drew1) | exact HB.out)) hb); clear HO_3; clear HB; have HO_3 := n0_; have HO140 := n1_; have HB := n2_; clear n0_ n1_ n2_; clear hb ho53; obtain ⟨Ao54, co54, eo54⟩ := Kd.R_slice HO140.out; subst eo54) | ((with_reducible refine gate_callee (f := 22) rfl ?_); refine goesL_ (some 30) rfl rfl Tryd.func22 (by kernel_rfl) rfl #[.slice Ao54 y138.length co54] rfl (by (try simp only [List.map_toArray, List.map_cons, List.map_nil]); first | done | rfl | (simp only [List.length_drop, List.length_take]; rfl)) ?_; (with_reducible refine (utf16_Encode.calls k1 _ _ y138 t141 _ ?side1 ?side2 A15.out).mono ?_); (case side1 => repeat (first | exact (Kd.R_reads' HO140.out).2.2 | (with_reducible refine Kd.C_alloc ?_ _) | (with_reducible refine Kd.C_drewN ?_ _) | (with_reducible refine Kd.C_drew ?_))); (case side2 => exact (Kd.R_reads' HO140.out).2.1); rintro e w55 ⟨v142, rfl, ho0, hb⟩; refine ⟨_, rfl, ?_⟩; have n0_ := Aside0.mk (Kd.R_below (by (with_reducible repeat (first | apply Kd.R_alloc | apply Kd.R_drewN | apply Kd.R_drew)); exact HO_3.out) hb); have n1_ := Aside0.mk (Kd.R_below (by (with_reducible repeat (first | apply Kd.R_alloc | apply Kd.R_drewN | apply Kd.R_drew)); exact HO140.out) hb); have n2_ := Aside0.mk (Kd.R_lower ho0 (below_size (by repeat (first | (with_reducible first | exact HB.out | apply below_alloc | apply pw_below_drewN | apply below_drew1) | exact HB.out)))); have n3_ := Aside0.mk (below_step (by repeat (first | (with_reducible first | exact HB.out | apply below_alloc | apply pw_below_drewN | apply below_drew1) | exact HB.out)) hb); clear HO_3; clear HO140; clear HB; have HO_3 := n0_; have HO140 := n1_; have HO143 := n2_; have HB := n3_; clear n0_ n1_ n2_ n3_; (try clear hb); (try clear hb2); (try clear hk); (try clear hi); (try clear ho0); obtain ⟨Ao56, co56, eo56⟩ := Kd.R_slice HO143.out; subst eo56; have p144 : 0 ≤ (0 : Int) := (by omega); have q144 : 0 < (t141.length : Int) := of_decide_eq_true (by first | (with_reducible assumption) | assumption); obtain ⟨ad144, e144, hx144_0⟩ := Kd.at_int (Kd.R_reads' HO143.out).2.2 0 p144 q144; cases e144; have qi144 : (0 < t141.length) = True := eq_true (by omega); (try rw [show ((0 : Int)).toNat = 0 from rfl] at hx144_0); (try rw [Addr.add_zero'] at hx144_0); replace p144 := eq_true p144; replace q144 := eq_true q144))
                                          have n0_ := Aside0.mk (Kd.R_drew HO_3.out)
                                          have n1_ := Aside0.mk (Kd.R_drew HO140.out)
                                          have n2_ := Aside0.mk (Kd.R_drew HO143.out)
                                          have n3_ := Aside0.mk (below_drew1 HB.out)
                                          clear HO_3
                                          clear HO140
                                          clear HO143
                                          clear HB
                                          have HO_3 := n0_
                                          have HO140 := n1_
                                          have HO143 := n2_
                                          have HB := n3_
                                          clear n0_ n1_ n2_ n3_
                                          have p39 : 0 ≤ ((ji36) : Int) := of_decide_eq_true (by first | (with_reducible assumption) | assumption)
                                          have q39 : (ji36) < (16 : Int) := of_decide_eq_true (by first | (with_reducible assumption) | assumption)
                                          have hx39 := bt_at (⟨#[48, 49, 50, 51, 52, 53, 54, 55, 56, 57, 65, 66, 67, 68, 69, 70]⟩ : ByteArray) (ji36)
                                          replace p39 := eq_true p39
                                          replace q39 := eq_true q39
                                          have p43 : 0 ≤ ((ji40) : Int) := of_decide_eq_true (by first | (with_reducible assumption) | assumption)
                                          have q43 : (ji40) < (16 : Int) := of_decide_eq_true (by first | (with_reducible assumption) | assumption)
                                          have hx43 := bt_at (⟨#[48, 49, 50, 51, 52, 53, 54, 55, 56, 57, 65, 66, 67, 68, 69, 70]⟩ : ByteArray) (ji40)
                                          replace p43 := eq_true p43
                                          replace q43 := eq_true q43
                                          have p47 : 0 ≤ ((ji44) : Int) := of_decide_eq_true (by first | (with_reducible assumption) | assumption)
                                          have q47 : (ji44) < (16 : Int) := of_decide_eq_true (by first | (with_reducible assumption) | assumption)
                                          have hx47 := bt_at (⟨#[48, 49, 50, 51, 52, 53, 54, 55, 56, 57, 65, 66, 67, 68, 69, 70]⟩ : ByteArray) (ji44)
                                          replace p47 := eq_true p47
                                          replace q47 := eq_true q47
                                          have p50 : 0 ≤ ((Go.bits .and .u16 (rd t141 0) 15) : Int) := of_decide_eq_true (by first | (with_reducible assumption) | assumption)
                                          have q50 : (Go.bits .and .u16 (rd t141 0) 15) < (16 : Int) := of_decide_eq_true (by first | (with_reducible assumption) | assumption)
                                          have hx50 := bt_at (⟨#[48, 49, 50, 51, 52, 53, 54, 55, 56, 57, 65, 66, 67, 68, 69, 70]⟩ : ByteArray) (Go.bits .and .u16 (rd t141 0) 15)
                                          replace p50 := eq_true p50
                                          replace q50 := eq_true q50
                                          refine start_ (n := 18) (S := fun w' => True) (ds := []) #[false, false, false, false, false, false, false, false, false, false, false, false, false, false, false, false, false, false] (by kernel_rfl) rfl rfl trivial (fun hHeld => ?_); refine with_tabW otto_builtinEscape.tab10 otto_builtinEscape.bits10 (fun HT_ HW_ => ?_)
                                          generalize w55.drew = w57 at HO_3 HO140 HO143 HB hHeld ⊢
                                          refine pure_ (i := 0) (N := some 44) (v := ?_) (a' := ?_) #[true, false, false, false, false, false, false, false, false, false, false, false, false, false, false, false, false, false] rfl rfl (any_of HT_.out (by kernel_rfl)) (fun _ _ _ h => h) (Or.inl ⟨by rfl, ?_⟩) ?_ ?_
                                          rotate_left
                                          · intro w'
                                            go_simp
                                            with_reducible rfl
                                          rotate_left
                                          · simp only [Act.put, List.setIfInBounds_toArray, List.set_cons_zero, List.set_cons_succ, i64_w, i32_w]
                                            rfl
                                          refine pure_ (i := 1) (N := some 45) (v := ?_) (a' := ?_) #[true, true, false, false, false, false, false, false, false, false, false, false, false, false, false, false, false, false] rfl rfl (any_of HT_.out (by kernel_rfl)) (fun _ _ _ h => h) (Or.inl ⟨by rfl, ?_⟩) ?_ ?_
                                          rotate_left
                                          · intro w'
                                            go_simp
                                            with_reducible rfl
                                          rotate_left
                                          · simp only [Act.put, List.setIfInBounds_toArray, List.set_cons_zero, List.set_cons_succ, i64_w, i32_w]
                                            rfl
                                          refine pure_ (i := 2) (N := some 46) (v := ?_) (a' := ?_) #[true, true, true, false, false, false, false, false, false, false, false, false, false, false, false, false, false, false] rfl rfl (any_of HT_.out (by kernel_rfl)) (fun _ _ _ h => h) (Or.inl ⟨by rfl, ?_⟩) ?_ ?_
                                          rotate_left
                                          · intro w'
                                            go_simp
                                            with_reducible rfl
                                          rotate_left
                                          · simp only [Act.put, List.setIfInBounds_toArray, List.set_cons_zero, List.set_cons_succ, i64_w, i32_w]
                                            rfl
                                          refine pure_ (i := 4) (N := some 48) (v := ?_) (a' := ?_) #[true, true, true, false, true, false, false, false, false, false, false, false, false, false, false, false, false, false] rfl rfl (any_of HT_.out (by kernel_rfl)) (fun _ _ _ h => h) (Or.inl ⟨by rfl, ?_⟩) ?_ ?_
                                          rotate_left
                                          · intro w'
                                            go_simp
                                            with_reducible rfl
                                          rotate_left
                                          · simp only [Act.put, List.setIfInBounds_toArray, List.set_cons_zero, List.set_cons_succ, i64_w, i32_w]
                                            rfl
                                          refine pure_ (i := 5) (N := some 49) (v := ?_) (a' := ?_) #[true, true, true, false, true, true, false, false, false, false, false, false, false, false, false, false, false, false] rfl rfl (any_of HT_.out (by kernel_rfl)) (fun _ _ _ h => h) (Or.inl ⟨by rfl, ?_⟩) ?_ ?_
                                          rotate_left
                                          · intro w'
                                            go_simp
                                            with_reducible rfl
                                          rotate_left
                                          · simp only [Act.put, List.setIfInBounds_toArray, List.set_cons_zero, List.set_cons_succ, i64_w, i32_w]
                                            rfl
                                          refine pure_ (i := 6) (N := some 50) (v := ?_) (a' := ?_) #[true, true, true, false, true, true, true, false, false, false, false, false, false, false, false, false, false, false] rfl rfl (any_of HT_.out (by kernel_rfl)) (fun _ _ _ h => h) (Or.inl ⟨by rfl, ?_⟩) ?_ ?_
                                          rotate_left
                                          · intro w'
                                            go_simp
                                            with_reducible rfl
                                          rotate_left
                                          · simp only [Act.put, List.setIfInBounds_toArray, List.set_cons_zero, List.set_cons_succ, i64_w, i32_w]
                                            rfl
                                          refine pure_ (i := 8) (N := some 52) (v := ?_) (a' := ?_) #[true, true, true, false, true, true, true, false, true, false, false, false, false, false, false, false, false, false] rfl rfl (any_of HT_.out (by kernel_rfl)) (fun _ _ _ h => h) (Or.inl ⟨by rfl, ?_⟩) ?_ ?_
                                          rotate_left
                                          · intro w'
                                            go_simp
                                            with_reducible rfl
                                          rotate_left
                                          · simp only [Act.put, List.setIfInBounds_toArray, List.set_cons_zero, List.set_cons_succ, i64_w, i32_w]
                                            rfl
                                          refine pure_ (i := 9) (N := some 53) (v := ?_) (a' := ?_) #[true, true, true, false, true, true, true, false, true, true, false, false, false, false, false, false, false, false] rfl rfl (any_of HT_.out (by kernel_rfl)) (fun _ _ _ h => h) (Or.inl ⟨by rfl, ?_⟩) ?_ ?_
                                          rotate_left
                                          · intro w'
                                            go_simp
                                            with_reducible rfl
                                          rotate_left
                                          · simp only [Act.put, List.setIfInBounds_toArray, List.set_cons_zero, List.set_cons_succ, i64_w, i32_w]
                                            rfl
                                          refine pure_ (i := 10) (N := some 54) (v := ?_) (a' := ?_) #[true, true, true, false, true, true, true, false, true, true, true, false, false, false, false, false, false, false] rfl rfl (any_of HT_.out (by kernel_rfl)) (fun _ _ _ h => h) (Or.inl ⟨by rfl, ?_⟩) ?_ ?_
                                          rotate_left
                                          · intro w'
                                            go_simp
                                            with_reducible rfl
                                          rotate_left
                                          · simp only [Act.put, List.setIfInBounds_toArray, List.set_cons_zero, List.set_cons_succ, i64_w, i32_w]
                                            rfl
                                          refine pure_ (i := 12) (N := some 56) (v := ?_) (a' := ?_) #[true, true, true, false, true, true, true, false, true, true, true, false, true, false, false, false, false, false] rfl rfl (any_of HT_.out (by kernel_rfl)) (fun _ _ _ h => h) (Or.inl ⟨by rfl, ?_⟩) ?_ ?_
                                          rotate_left
                                          · intro w'
                                            go_simp
                                            with_reducible rfl
                                          rotate_left
                                          · simp only [Act.put, List.setIfInBounds_toArray, List.set_cons_zero, List.set_cons_succ, i64_w, i32_w]
                                            rfl
                                          refine pure_ (i := 13) (N := some 57) (v := ?_) (a' := ?_) #[true, true, true, false, true, true, true, false, true, true, true, false, true, true, false, false, false, false] rfl rfl (any_of HT_.out (by kernel_rfl)) (fun _ _ _ h => h) (Or.inl ⟨by rfl, ?_⟩) ?_ ?_
                                          rotate_left
                                          · intro w'
                                            go_simp
                                            with_reducible rfl
                                          rotate_left
                                          · simp only [Act.put, List.setIfInBounds_toArray, List.set_cons_zero, List.set_cons_succ, i64_w, i32_w]
                                            rfl
                                          refine take_ (i := 3) (N := some 47) (v := ?_) (a' := ?_) #[true, true, true, true, true, true, true, false, true, true, true, false, true, true, false, false, false, false] rfl rfl (take_ofW HT_.out HW_.out (by kernel_rfl)) (fun _ _ _ h => h) (Or.inl ⟨by rfl, ?_⟩) hHeld ?_ ?_
                                          rotate_left
                                          · intro w' _
                                            go_simp
                                            with_reducible rfl
                                          rotate_left
                                          · simp only [Act.put, List.setIfInBounds_toArray, List.set_cons_zero, List.set_cons_succ, i64_w, i32_w]
                                            rfl
                                          refine take_ (i := 7) (N := some 51) (v := ?_) (a' := ?_) #[true, true, true, true, true, true, true, true, true, true, true, false, true, true, false, false, false, false] rfl rfl (take_ofW HT_.out HW_.out (by kernel_rfl)) (fun _ _ _ h => h) (Or.inl ⟨by rfl, ?_⟩) hHeld ?_ ?_
                                          rotate_left
                                          · intro w' _
                                            go_simp
                                            with_reducible rfl
                                          rotate_left
                                          · simp only [Act.put, List.setIfInBounds_toArray, List.set_cons_zero, List.set_cons_succ, i64_w, i32_w]
                                            rfl
                                          refine take_ (i := 11) (N := some 55) (v := ?_) (a' := ?_) #[true, true, true, true, true, true, true, true, true, true, true, true, true, true, false, false, false, false] rfl rfl (take_ofW HT_.out HW_.out (by kernel_rfl)) (fun _ _ _ h => h) (Or.inl ⟨by rfl, ?_⟩) hHeld ?_ ?_
                                          rotate_left
                                          · intro w' _
                                            go_simp
                                            with_reducible rfl
                                          rotate_left
                                          · simp only [Act.put, List.setIfInBounds_toArray, List.set_cons_zero, List.set_cons_succ, i64_w, i32_w]
                                            rfl
                                          refine take_ (i := 14) (N := some 58) (v := ?_) (a' := ?_) #[true, true, true, true, true, true, true, true, true, true, true, true, true, true, true, false, false, false] rfl rfl (take_ofW HT_.out HW_.out (by kernel_rfl)) (fun _ _ _ h => h) (Or.inl ⟨by rfl, ?_⟩) hHeld ?_ ?_
                                          rotate_left
                                          · intro w' _
                                            go_simp
                                            with_reducible rfl
                                          rotate_left
                                          · simp only [Act.put, List.setIfInBounds_toArray, List.set_cons_zero, List.set_cons_succ, i64_w, i32_w]
                                            rfl
                                          refine one_ (i := 15) (N := some 59) #[true, true, true, true, true, true, true, true, true, true, true, true, true, true, true, true, false, false] rfl rfl (one_of HT_.out (by kernel_rfl)) (by decide) (fun K hK => ?_)
                                          refine Kd.R_lit_step (Kd.int .u8) _ 5 ?hg (N := 59) ?hd (xs := ([37, 117, bt (⟨#[48, 49, 50, 51, 52, 53, 54, 55, 56, 57, 65, 66, 67, 68, 69, 70]⟩ : ByteArray) (ji36), bt (⟨#[48, 49, 50, 51, 52, 53, 54, 55, 56, 57, 65, 66, 67, 68, 69, 70]⟩ : ByteArray) (ji40), bt (⟨#[48, 49, 50, 51, 52, 53, 54, 55, 56, 57, 65, 66, 67, 68, 69, 70]⟩ : ByteArray) (ji44), bt (⟨#[48, 49, 50, 51, 52, 53, 54, 55, 56, 57, 65, 66, 67, 68, 69, 70]⟩ : ByteArray) (Go.bits .and .u16 (rd t141 0) 15)] : List Int)) (inner := [.int .u8 37, .int .u8 117, .int .u8 (bt (⟨#[48, 49, 50, 51, 52, 53, 54, 55, 56, 57, 65, 66, 67, 68, 69, 70]⟩ : ByteArray) (ji36)), .int .u8 (bt (⟨#[48, 49, 50, 51, 52, 53, 54, 55, 56, 57, 65, 66, 67, 68, 69, 70]⟩ : ByteArray) (ji40)), .int .u8 (bt (⟨#[48, 49, 50, 51, 52, 53, 54, 55, 56, 57, 65, 66, 67, 68, 69, 70]⟩ : ByteArray) (ji44)), .int .u8 (bt (⟨#[48, 49, 50, 51, 52, 53, 54, 55, 56, 57, 65, 66, 67, 68, 69, 70]⟩ : ByteArray) (Go.bits .and .u16 (rd t141 0) 15))]) (ok := fun _ => True) (okp := fun _ => True) ?hr ?hp (fun _ hk => hk) trivial (Below.refl _ _) (Nat.le_refl _) (by simp) ?_; (case hd => rfl); (case hg => rfl); (case hr => first | (go_simp; done) | (go_simp; rfl)); (case hp => exact (Reps.one (show Kd.M (Kd.int .u8) _ _ _ 37 [.int .u8 37] from rfl) (Reps.one (show Kd.M (Kd.int .u8) _ _ _ 117 [.int .u8 117] from rfl) (Reps.one (show Kd.M (Kd.int .u8) _ _ _ (bt (⟨#[48, 49, 50, 51, 52, 53, 54, 55, 56, 57, 65, 66, 67, 68, 69, 70]⟩ : ByteArray) (ji36)) [.int .u8 (bt (⟨#[48, 49, 50, 51, 52, 53, 54, 55, 56, 57, 65, 66, 67, 68, 69, 70]⟩ : ByteArray) (ji36))] from rfl) (Reps.one (show Kd.M (Kd.int .u8) _ _ _ (bt (⟨#[48, 49, 50, 51, 52, 53, 54, 55, 56, 57, 65, 66, 67, 68, 69, 70]⟩ : ByteArray) (ji40)) [.int .u8 (bt (⟨#[48, 49, 50, 51, 52, 53, 54, 55, 56, 57, 65, 66, 67, 68, 69, 70]⟩ : ByteArray) (ji40))] from rfl) (Reps.one (show Kd.M (Kd.int .u8) _ _ _ (bt (⟨#[48, 49, 50, 51, 52, 53, 54, 55, 56, 57, 65, 66, 67, 68, 69, 70]⟩ : ByteArray) (ji44)) [.int .u8 (bt (⟨#[48, 49, 50, 51, 52, 53, 54, 55, 56, 57, 65, 66, 67, 68, 69, 70]⟩ : ByteArray) (ji44))] from rfl) (Reps.one (show Kd.M (Kd.int .u8) _ _ _ (bt (⟨#[48, 49, 50, 51, 52, 53, 54, 55, 56, 57, 65, 66, 67, 68, 69, 70]⟩ : ByteArray) (Go.bits .and .u16 (rd t141 0) 15)) [.int .u8 (bt (⟨#[48, 49, 50, 51, 52, 53, 54, 55, 56, 57, 65, 66, 67, 68, 69, 70]⟩ : ByteArray) (Go.bits .and .u16 (rd t141 0) 15))] from rfl) (Reps.none _ _))))))))
                                          intro v152 w58 ho59 hb hg_ hnew_
                                          clear hg_ hnew_
                                          (first | rw [← Ny151.out] at ho59 | (simp only [Int.reduceToNat] at ho59; rw [← Ny151.out] at ho59))
                                          have n0_ := Aside0.mk (Kd.R_elder' (by (with_reducible repeat (first | apply Kd.R_alloc | apply Kd.R_drewN | apply Kd.R_drew)); exact HO_3.out) (Kd.R_base ho59) hb)
                                          have n1_ := Aside0.mk (Kd.R_below (by (with_reducible repeat (first | apply Kd.R_alloc | apply Kd.R_drewN | apply Kd.R_drew)); exact HO140.out) hb)
                                          have n2_ := Aside0.mk (Kd.R_below (by (with_reducible repeat (first | apply Kd.R_alloc | apply Kd.R_drewN | apply Kd.R_drew)); exact HO143.out) hb)
                                          have n3_ := Aside0.mk (Kd.R_lower (Kd.R_new' ho59 (Kd.R_lt (by (with_reducible repeat (first | apply Kd.R_alloc | apply Kd.R_drewN | apply Kd.R_drew)); exact HO_3.out))) (below_size (by repeat (first | (with_reducible first | exact HB.out | apply below_alloc | apply pw_below_drewN | apply below_drew1) | exact HB.out))))
                                          have n4_ := Aside0.mk (below_step (by repeat (first | (with_reducible first | exact HB.out | apply below_alloc | apply pw_below_drewN | apply below_drew1) | exact HB.out)) hb)
                                          clear HO_3
                                          clear HO140
                                          clear HO143
                                          clear HB
                                          have HO_3 := n0_
                                          have HO140 := n1_
                                          have HO143 := n2_
                                          have HO153 := n3_
                                          have HB := n4_
                                          clear n0_ n1_ n2_ n3_ n4_
                                          clear hb ho59
                                          obtain ⟨Ao61, co61, eo61⟩ := Kd.R_slice HO153.out
                                          (first | subst eo61 | (injection eo61 with f1_ f2_ f3_; have f4_ := f1_.symm; have f5_ := f3_.symm; clear f1_ f2_ f3_; subst f4_; subst f5_))
                                          refine hK.out _ _ trivial (fun hHeld => ?_)
                                          clear hK K
                                          refine norm_ (a' := ?_) ?_ ?_
                                          rotate_left
                                          · show Act.put _ (some 59) _ = _
                                            simp only [Act.put, List.setIfInBounds_toArray, List.set_cons_zero, List.set_cons_succ, i64_w, i32_w]
                                            rfl
                                          refine one_ (i := 16) (N := some 60) #[true, true, true, true, true, true, true, true, true, true, true, true, true, true, true, true, true, false] rfl rfl (one_of HT_.out (by kernel_rfl)) (by decide) (fun K hK => ?_)
                                          refine Kd.R_append_rows_step (Kd.int .u8) (w0 := w) w.heap.size (by rfl) (.tmp 44) (.tmp 59) 29 5 (.int .u8 0) 1 rfl Tryd.underlying29 info5 rfl (by decide) (by omega) u3 x3_1 y151 _ _ _ (fun k_ => some k_ ≠ (.slice Ao61 y151.length co61 : Value).ownBlock) (fun _ => False) rfl rfl ?aO ?aR (fun _ _ h => h) (fun _ h => h.elim) ?aF ?aB ?aS ?aL ?_
                                          (case aR => repeat (first | exact (Kd.R_reads' HO153.out).2.2 | (with_reducible refine Kd.C_alloc ?_ _) | (with_reducible refine Kd.C_drewN ?_ _) | (with_reducible refine Kd.C_drew ?_)))
                                          (case aB => exact (by repeat (first | (with_reducible first | exact HB.out | apply below_alloc | apply pw_below_drewN | apply below_drew1) | exact HB.out)))
                                          (case aF => exact (fun k_ hk => Kd.fresh' (Kd.R_lt (by (with_reducible repeat (first | apply Kd.R_alloc | apply Kd.R_drewN | apply Kd.R_drew)); exact HO153.out)) k_ hk))
                                          (case aO => exact (by (with_reducible repeat (first | apply Kd.R_alloc | apply Kd.R_drewN | apply Kd.R_drew)); exact Kd.R_mono HO_3.out (fun _ hk => hk.2)))
                                          (case aS => exact (below_size (by repeat (first | (with_reducible first | exact HB.out | apply below_alloc | apply pw_below_drewN | apply below_drew1) | exact HB.out))))
                                          (case aL => have := LMc51.out; omega)
                                          intro v155 w60 ho hb hg hat
                                          rw [← Ny154.out] at ho
                                          have n0_ := Aside0.mk (Kd.R_over' (by (with_reducible repeat (first | apply Kd.R_alloc | apply Kd.R_drewN | apply Kd.R_drew)); exact HO140.out) (Kd.R_typed (by (with_reducible repeat (first | apply Kd.R_alloc | apply Kd.R_drewN | apply Kd.R_drew)); exact HO_3.out)) (by decide) hg)
                                          have n1_ := Aside0.mk (Kd.R_over' (by (with_reducible repeat (first | apply Kd.R_alloc | apply Kd.R_drewN | apply Kd.R_drew)); exact HO143.out) (Kd.R_typed (by (with_reducible repeat (first | apply Kd.R_alloc | apply Kd.R_drewN | apply Kd.R_drew)); exact HO_3.out)) (by decide) hg)
                                          have n2_ := Aside0.mk (Kd.R_after (ok := (fun _ => True)) (by (with_reducible repeat (first | apply Kd.R_alloc | apply Kd.R_drewN | apply Kd.R_drew)); exact HO153.out) hg hat)
                                          have n3_ := Aside0.mk (hb)
                                          have n4_ := Aside0.mk (ho)
                                          clear HO140
                                          clear HO143
                                          clear HO153
                                          clear HB
                                          clear HO_3
                                          have HO140 := n0_
                                          have HO143 := n1_
                                          have HO153 := n2_
                                          have HB := n3_
                                          have HO156 := n4_
                                          clear n0_ n1_ n2_ n3_ n4_
                                          clear ho hb hg hat
                                          refine hK.out _ _ trivial (fun hHeld => ?_)
                                          clear hK K
                                          refine norm_ (a' := ?_) ?_ ?_
                                          rotate_left
                                          · show Act.put _ (some 60) _ = _
                                            simp only [Act.put, List.setIfInBounds_toArray, List.set_cons_zero, List.set_cons_succ, i64_w, i32_w]
                                            rfl
                                          refine pure_ (i := 17) (N := some 3) (v := ?_) (a' := ?_) #[true, true, true, true, true, true, true, true, true, true, true, true, true, true, true, true, true, true] rfl rfl (any_of HT_.out (by kernel_rfl)) (fun _ _ _ h => h) (Or.inl ⟨by rfl, ?_⟩) ?_ ?_
                                          rotate_left
                                          · intro w'
                                            go_simp
                                            with_reducible rfl
                                          rotate_left
                                          · simp only [Act.put, List.setIfInBounds_toArray, List.set_cons_zero, List.set_cons_succ, i64_w, i32_w]
                                            rfl
                                          refine done_ (done_of HT_.out (by kernel_rfl)) ?_
                                          try go_wp2
                                          go_roundg k1
                                          case measure => have := HK1.out; omega
                                          case rel => exact ⟨(y154), (wrap64 (x5_1 + t137)), (by first | rfl | (simp; done) | (simp [*]; done)), H', ⟨by have := HK1.out; omega⟩, ⟨by (with_reducible repeat (first | apply Kd.R_alloc | apply Kd.R_drewN | apply Kd.R_drew)); exact Kd.R_mono HO156.out (fun _ hk => trivial)⟩, ⟨by repeat (first | (with_reducible first | exact HB.out | apply below_alloc | apply pw_below_drewN | apply below_drew1) | exact HB.out)⟩⟩
                                        · rw [if_neg c51] at H
                                          exact absurd H (by simp)
                                      · rw [if_neg c49] at H
                                        exact absurd H (by simp)
                                    · rw [if_neg c48] at H
                                      exact absurd H (by simp)
                                  · rw [if_neg c46] at H
                                    exact absurd H (by simp)
                                · rw [if_neg c45] at H
                                  exact absurd H (by simp)
                              · rw [if_neg c42] at H
                                exact absurd H (by simp)
                            · rw [if_neg c41] at H
                              exact absurd H (by simp)
                          · rw [if_neg c38] at H
                            exact absurd H (by simp)
                        · rw [if_neg c37] at H
                          exact absurd H (by simp)
                    · rw [if_neg c16] at H
                      exact absurd H (by simp)
                  · rw [if_neg c13] at H
                    exact absurd H (by simp)
                · replace c11 := Bool.eq_false_iff.mpr c11
                  subst c11
                  have H1 : (if x3_1.length < 140737488355328 then (otto_builtinEscape.l0 k1 a0 (x3_1 ++ [bt a0 x5_1]) (a0.size : Int) (wrap64 (x5_1 + 1))) else (none)) = some r := by rw [if_neg (show ¬ (false = true) by decide)] at H; exact H
                  clear H
                  have H := H1
                  clear H1
                  by_cases c63 : x3_1.length < 140737488355328
                  · rw [if_pos c63] at H
                    have LMc63 := Aside0.mk c63
                    clear c63
                    obtain ⟨y157, hy157⟩ : ∃ y_ : List Int, y_ = (x3_1 ++ [bt a0 x5_1]) := ⟨_, rfl⟩
                    replace H : (otto_builtinEscape.l0 k1 a0 y157 (a0.size : Int) (wrap64 (x5_1 + 1))) = some r := by first | (rw [hy157]; with_reducible exact H) | (have H2_ := (Option.bind_some _ _).symm.trans H; rw [hy157]; with_reducible exact H2_) | (have H2_ := (Option.bind_some _ _).symm.trans H; with_reducible exact H2_) | with_reducible exact H | (rw [hy157]; exact H) | exact H
                    have Ny157 := Aside0.mk hy157
                    clear hy157
                    have H' := Aside0.mk H
                    clear H
                    have p9 : 0 ≤ (x5_1 : Int) := of_decide_eq_true (by first | (with_reducible assumption) | assumption)
                    have q9 : x5_1 < (a0.size : Int) := of_decide_eq_true (by first | (with_reducible assumption) | assumption)
                    have hx9 := bt_at a0 x5_1
                    replace p9 := eq_true p9
                    replace q9 := eq_true q9
                    go_wp2_with (first | ((with_reducible refine gate_callee (f := 20) rfl ?_); refine goesL_ (some 20) rfl rfl Tryd.func20 (by kernel_rfl) rfl #[.int .u8 (bt a0 x5_1)] rfl (by (try simp only [List.map_toArray, List.map_cons, List.map_nil]); first | done | rfl | (simp only [List.length_drop, List.length_take]; rfl)) ?_; (with_reducible refine (otto_builtinShouldEscape.calls k1 (bt a0 x5_1) false _ A10.out).mono ?_); rintro e w' ⟨rfl, ⟨nd, rfl⟩⟩; refine ⟨_, rfl, ?_⟩; have p62 : 0 ≤ (x5_1 : Int) := of_decide_eq_true (by first | (with_reducible assumption) | assumption); have q62 : x5_1 < (a0.size : Int) := of_decide_eq_true (by first | (with_reducible assumption) | assumption); have hx62 := bt_at a0 x5_1; replace p62 := eq_true p62; replace q62 := eq_true q62) | ((with_reducible refine gate_builtin (b := .append) (xs := #[.tmp 64, .tmp 68]) rfl ?_); at_builtin; refine Kd.R_append (Kd.int .u8) (w0 := w) w.heap.size rfl (.tmp 64) (.tmp 68) 29 5 (.int .u8 0) 1 rfl Tryd.underlying29 info5 rfl (by decide) (by omega) u3 x3_1 (bt a0 x5_1) [.int .u8 (bt a0 x5_1)] (fun _ => True) (fun _ => False) rfl rfl ?aP (fun _ hk => hk.elim) ?aF ?aO ?aB ?aS ?aL ?_; (case aP => exact rfl); (case aB => exact (by repeat (first | (with_reducible first | exact HB.out | apply below_alloc | apply pw_below_drewN | apply below_drew1) | exact HB.out))); (case aF => exact (fun _ _ => trivial)); (case aO => exact (by (with_reducible repeat (first | apply Kd.R_alloc | apply Kd.R_drewN | apply Kd.R_drew)); exact HO_3.out)); (case aS => exact (below_size (by repeat (first | (with_reducible first | exact HB.out | apply below_alloc | apply pw_below_drewN | apply below_drew1) | exact HB.out)))); (case aL => have := LMc63.out; omega); intro v158 w64 ho hb hg hat; rw [← Ny157.out] at ho; have n0_ := Aside0.mk (hb); have n1_ := Aside0.mk (ho); clear HB; clear HO_3; have HB := n0_; have HO159 := n1_; clear n0_ n1_; clear ho hb hg hat))
                    go_roundg k1
                    case measure => have := HK1.out; omega
                    case rel => exact ⟨(y157), (wrap64 (x5_1 + 1)), (by first | rfl | (simp; done) | (simp [*]; done)), H', ⟨by have := HK1.out; omega⟩, ⟨by (with_reducible repeat (first | apply Kd.R_alloc | apply Kd.R_drewN | apply Kd.R_drew)); exact HO159.out⟩, ⟨by repeat (first | (with_reducible first | exact HB.out | apply below_alloc | apply pw_below_drewN | apply below_drew1) | exact HB.out)⟩⟩
                  · rw [if_neg c63] at H
                    exact absurd H (by simp)
              · rw [if_neg c8] at H
                exact absurd H (by simp)
            · rw [if_neg c7] at H
              exact absurd H (by simp)
          · rw [if_neg c6] at H
            have c6b0 : decide (x5_1 < (a0.size : Int)) = false := decide_eq_false c6
            clear c6
            obtain rfl := Option.some.inj H
            have hcv65 := own_string (P := Tryd.prog) Tryd.underlying29 Tryd.underlying5 Tryd.underlying9 (Kd.own_of_R HO_3.out)
            go_wp2
            go_ret
            exact ⟨by first | rfl | (simp [errW_none, errW_some] <;> rfl) | (simp [*, errW_none, errW_some] <;> rfl), by repeat (first | (with_reducible first | exact HB.out | apply below_alloc | apply pw_below_drewN | apply below_drew1) | exact HB.out)⟩
    · rw [if_neg c3] at H
      exact absurd H (by simp)
  · rw [if_neg c2] at H
    exact absurd H (by simp)

/-! ### otto_ZZEscape: function 13 -/
def otto_ZZEscape.f (k : Nat) (a0 : ByteArray) : Option (ByteArray) := (otto_builtinEscape.f k a0).bind fun t160 => (some t160)
theorem otto_ZZEscape.mono : ∀ a0 k, LeO (otto_ZZEscape.f k a0) (otto_ZZEscape.f (k + 1) a0) := by
  intro a0 k
  unfold otto_ZZEscape.f
  repeat' first
      | (with_reducible exact otto_builtinEscape.mono _ _)
      | (with_reducible exact LeO.refl _)
      | (with_reducible exact LeO.none _)
      | (with_reducible refine LeO.ite ?_ ?_)
      | (with_reducible refine LeO.bind ?_ (fun _ => ?_))
      | exact otto_builtinEscape.mono _ _
      | exact LeO.none _
      | refine LeO.ite ?_ ?_
      | refine LeO.bind ?_ (fun _ => ?_)
set_option maxHeartbeats 8000000 in
set_option maxRecDepth 100000 in
theorem otto_ZZEscape.calls (k : Nat) (a0 : ByteArray) (r : ByteArray) (w : World) (h : otto_ZZEscape.f k a0 = some r) :
    Calls Tryd.prog 13 #[.string a0] w fun e w' => e = .returned (.string r) ∧ Below w.heap.size w w' := by
  have HB := Aside0.mk (Below.refl w.heap.size w)
  have H : ((otto_builtinEscape.f k a0).bind fun t160 => (some t160)) = some r := h
  clear h
  replace H := Option.bind_eq_some_iff.mp H
  obtain ⟨t160, A20, H⟩ := H
  replace H : (some t160) = some r := H
  have A2 := Aside0.mk A20
  clear A20
  obtain rfl := Option.some.inj H
  go_enter Tryd.func13, Tryd.ntmps13
  go_wp2_with (first | ((with_reducible refine gate_callee (f := 18) rfl ?_); refine goesL_ (some 4) rfl rfl Tryd.func18 (by kernel_rfl) rfl #[.string a0] rfl (by (try simp only [List.map_toArray, List.map_cons, List.map_nil]); first | done | rfl | (simp only [List.length_drop, List.length_take]; rfl)) ?_; (with_reducible refine (otto_builtinEscape.calls k a0 t160 _ A2.out).mono ?_); rintro e w3 ⟨rfl, hb⟩; refine ⟨_, rfl, ?_⟩; have n0_ := Aside0.mk (below_step (by repeat (first | (with_reducible first | exact HB.out | apply below_alloc | apply pw_below_drewN | apply below_drew1) | exact HB.out)) hb); clear HB; have HB := n0_; clear n0_; (try clear hb); (try clear hb2); (try clear hk); (try clear hi)))
  go_ret
  exact ⟨by first | rfl | (simp [errW_none, errW_some] <;> rfl) | (simp [*, errW_none, errW_some] <;> rfl), by repeat (first | (with_reducible first | exact HB.out | apply below_alloc | apply pw_below_drewN | apply below_drew1) | exact HB.out)⟩

/-! ### impl_Escape: function 7 -/
def impl_Escape.f (k : Nat) (a0 : ByteArray) : Option (ByteArray) := (otto_ZZEscape.f k a0).bind fun t161 => (some t161)
theorem impl_Escape.mono : ∀ a0 k, LeO (impl_Escape.f k a0) (impl_Escape.f (k + 1) a0) := by
  intro a0 k
  unfold impl_Escape.f
  repeat' first
      | (with_reducible exact otto_ZZEscape.mono _ _)
      | (with_reducible exact LeO.refl _)
      | (with_reducible exact LeO.none _)
      | (with_reducible refine LeO.ite ?_ ?_)
      | (with_reducible refine LeO.bind ?_ (fun _ => ?_))
      | exact otto_ZZEscape.mono _ _
      | exact LeO.none _
      | refine LeO.ite ?_ ?_
      | refine LeO.bind ?_ (fun _ => ?_)
set_option maxHeartbeats 8000000 in
set_option maxRecDepth 100000 in
theorem impl_Escape.calls (k : Nat) (a0 : ByteArray) (r : ByteArray) (w : World) (h : impl_Escape.f k a0 = some r) :
    Calls Tryd.prog 7 #[.string a0] w fun e w' => e = .returned (.string r) ∧ Below w.heap.size w w' := by
  have HB := Aside0.mk (Below.refl w.heap.size w)
  have H : ((otto_ZZEscape.f k a0).bind fun t161 => (some t161)) = some r := h
  clear h
  replace H := Option.bind_eq_some_iff.mp H
  obtain ⟨t161, A20, H⟩ := H
  replace H : (some t161) = some r := H
  have A2 := Aside0.mk A20
  clear A20
  obtain rfl := Option.some.inj H
  go_enter Tryd.func7, Tryd.ntmps7
  go_wp2_with (first | ((with_reducible refine gate_callee (f := 13) rfl ?_); refine goesL_ (some 4) rfl rfl Tryd.func13 (by kernel_rfl) rfl #[.string a0] rfl (by (try simp only [List.map_toArray, List.map_cons, List.map_nil]); first | done | rfl | (simp only [List.length_drop, List.length_take]; rfl)) ?_; (with_reducible refine (otto_ZZEscape.calls k a0 t161 _ A2.out).mono ?_); rintro e w3 ⟨rfl, hb⟩; refine ⟨_, rfl, ?_⟩; have n0_ := Aside0.mk (below_step (by repeat (first | (with_reducible first | exact HB.out | apply below_alloc | apply pw_below_drewN | apply below_drew1) | exact HB.out)) hb); clear HB; have HB := n0_; clear n0_; (try clear hb); (try clear hb2); (try clear hk); (try clear hi)))
  go_ret
  exact ⟨by first | rfl | (simp [errW_none, errW_some] <;> rfl) | (simp [*, errW_none, errW_some] <;> rfl), by repeat (first | (with_reducible first | exact HB.out | apply below_alloc | apply pw_below_drewN | apply below_drew1) | exact HB.out)⟩

end Go.Proofs.YtllaepgbpmiglaaDoor.QFnEscape
