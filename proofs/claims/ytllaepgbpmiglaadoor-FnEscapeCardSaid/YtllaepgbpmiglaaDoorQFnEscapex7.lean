-- Written by a program of this session out of the translation (a copy of the kit's print, turned). Not trusted: Lean checks it.
import Derived.Test.YtllaepgbpmiglaaDoorQFnEscapex0
import Derived.Test.YtllaepgbpmiglaaDoorQFnEscapex6
namespace Go.Proofs.YtllaepgbpmiglaaDoor.QFnEscape
open Go.RowKit Go.Proofs.YtllaepgbpmiglaaDoorW.PrintWords Go.Proofs.YtllaepgbpmiglaaDoorW.PrintLast Go.Proofs.YtllaepgbpmiglaaDoorW.PrintMore
attribute [local go_sem] max2_int min2_int max_two min_two max_three min_three max_four min_four   -- for this text's walks alone
set_option linter.unusedVariables false
set_option linter.unusedSimpArgs false

/-! ### utf16_decode: function 30 -/
mutual
def utf16_decode.l0 : Nat → List Int → List Int → Int → Option (List Int)
  | 0, _, _, _ => none
  | k + 1, x0, x1, x5 => if x5 < (x0.length : Int) then (if 0 ≤ x5 then (if (rd x0 x5) < 55296 then (utf16_decode.j1 k x0 x1 x5 (rd x0 x5) (decide ((rd x0 x5) < 55296))) else (utf16_decode.j1 k x0 x1 x5 (rd x0 x5) (decide (57344 ≤ (rd x0 x5))))) else (none)) else (some x1)
def utf16_decode.j1 : Nat → List Int → List Int → Int → Int → Bool → Option (List Int)
  | 0, _, _, _, _, _ => none
  | k + 1, x0, x1, x5, x7, x18 => if x18 = true then (if x1.length < 35184372088832 then (utf16_decode.l0 k x0 (x1 ++ [wrap32 (x7)]) (wrap64 (x5 + 1))) else (none)) else (if 55296 ≤ x7 then (if x7 < 56320 then (if (wrap64 (x5 + 1)) < (x0.length : Int) then (if 0 ≤ (wrap64 (x5 + 1)) then (if 56320 ≤ (rd x0 (wrap64 (x5 + 1))) then (if (rd x0 (wrap64 (x5 + 1))) < 57344 then ((utf16_DecodeRune.f (wrap32 (x7)) (wrap32 (rd x0 (wrap64 (x5 + 1))))).bind fun t186 => (if x1.length < 35184372088832 then (utf16_decode.l0 k x0 (x1 ++ [t186]) (wrap64 ((wrap64 (x5 + 1)) + 1))) else (none))) else (if x1.length < 35184372088832 then (utf16_decode.l0 k x0 (x1 ++ [65533]) (wrap64 (x5 + 1))) else (none))) else (if x1.length < 35184372088832 then (utf16_decode.l0 k x0 (x1 ++ [65533]) (wrap64 (x5 + 1))) else (none))) else (none)) else (if x1.length < 35184372088832 then (utf16_decode.l0 k x0 (x1 ++ [65533]) (wrap64 (x5 + 1))) else (none))) else (if x1.length < 35184372088832 then (utf16_decode.l0 k x0 (x1 ++ [65533]) (wrap64 (x5 + 1))) else (none))) else (if x1.length < 35184372088832 then (utf16_decode.l0 k x0 (x1 ++ [65533]) (wrap64 (x5 + 1))) else (none)))
end
def utf16_decode.f (k : Nat) (l0 : List Int) (l1 : List Int) : Option (List Int) := utf16_decode.l0 k l0 l1 0
theorem utf16_decode.mono_l : ∀ k, (∀ y0 y1 y2, LeO (utf16_decode.l0 k y0 y1 y2) (utf16_decode.l0 (k + 1) y0 y1 y2)) ∧ (∀ y0 y1 y2 y3 y4, LeO (utf16_decode.j1 k y0 y1 y2 y3 y4) (utf16_decode.j1 (k + 1) y0 y1 y2 y3 y4))
  | 0 => ⟨fun _ _ _ r h => by simp [utf16_decode.l0] at h, fun _ _ _ _ _ r h => by simp [utf16_decode.j1] at h⟩
  | k + 1 => by
    obtain ⟨ih0, ih1⟩ := utf16_decode.mono_l k
    refine ⟨?_, ?_⟩
    · intro y0 y1 y2
      unfold utf16_decode.l0
      repeat' first
      | (with_reducible exact ih0 _ _ _)
      | (with_reducible exact ih1 _ _ _ _ _)
      | (with_reducible exact LeO.refl _)
      | (with_reducible exact LeO.none _)
      | (with_reducible refine LeO.ite ?_ ?_)
      | (with_reducible refine LeO.bind ?_ (fun _ => ?_))
      | exact ih0 _ _ _
      | exact ih1 _ _ _ _ _
      | exact LeO.none _
      | refine LeO.ite ?_ ?_
      | refine LeO.bind ?_ (fun _ => ?_)
    · intro y0 y1 y2 y3 y4
      unfold utf16_decode.j1
      repeat' first
      | (with_reducible exact ih0 _ _ _)
      | (with_reducible exact ih1 _ _ _ _ _)
      | (with_reducible exact LeO.refl _)
      | (with_reducible exact LeO.none _)
      | (with_reducible refine LeO.ite ?_ ?_)
      | (with_reducible refine LeO.bind ?_ (fun _ => ?_))
      | exact ih0 _ _ _
      | exact ih1 _ _ _ _ _
      | exact LeO.none _
      | refine LeO.ite ?_ ?_
      | refine LeO.bind ?_ (fun _ => ?_)
theorem utf16_decode.mono : ∀ a0 a1 k, LeO (utf16_decode.f k a0 a1) (utf16_decode.f (k + 1) a0 a1) := by
  intro a0 a1 k
  obtain ⟨ih0, ih1⟩ := utf16_decode.mono_l k
  unfold utf16_decode.f
  repeat' first
      | (with_reducible exact ih0 _ _ _)
      | (with_reducible exact ih1 _ _ _ _ _)
      | (with_reducible exact LeO.refl _)
      | (with_reducible exact LeO.none _)
      | (with_reducible refine LeO.ite ?_ ?_)
      | (with_reducible refine LeO.bind ?_ (fun _ => ?_))
      | exact ih0 _ _ _
      | exact ih1 _ _ _ _ _
      | exact LeO.none _
      | refine LeO.ite ?_ ?_
      | refine LeO.bind ?_ (fun _ => ?_)
set_option maxHeartbeats 8000000 in
set_option maxRecDepth 100000 in
theorem utf16_decode.calls (k : Nat) (A0 : Option Addr) (c0 : Nat) (l0 : List Int) (P1_ : Nat → Prop) (u9000_ : Value) (l1 : List Int) (r : List Int) (w0 w : World) (hB : Below w0.heap.size w0 w) (hr0 : ∀ W_, Kept w W_ (fun k_ => P1_ k_) → Kd.C (Kd.int .u16) W_ A0 l0.length l0) (hc0 : l0.length ≤ c0) (ho1 : Kd.R (Kd.int .i32) 21 w w0.heap.size P1_ u9000_ l1) (h : utf16_decode.f k l0 l1 = some r) :
    Calls Tryd.prog 30 #[.slice A0 l0.length c0, u9000_] w fun e w' => ∃ v0_ : Value, e = .returned (v0_) ∧ Kd.R (Kd.int .i32) 21 w' w0.heap.size (fun k_ => (P1_ k_ ∨ w.heap.size ≤ k_)) v0_ r ∧ Below w0.heap.size w0 w' ∧ Kept w w' (fun k_ => P1_ k_) := by
  have HR0 := Aside0.mk hr0
  have HC0 := Aside0.mk hc0
  clear hr0 hc0
  have HO1 := Aside0.mk (show Kd.R (Kd.int .i32) 21 w w0.heap.size (fun k_ => (P1_ k_ ∨ w.heap.size ≤ k_)) u9000_ l1 from Kd.R_mono ho1 (fun k_ hk => (.inl hk)))
  have HK := Aside0.mk (Kept.refl w (fun k_ => P1_ k_))
  have HW0 := Aside0.mk hB.size
  have HB := Aside0.mk hB
  clear hB
  have H : (utf16_decode.l0 k l0 l1 0) = some r := h
  clear h
  have H' := Aside0.mk H
  clear H
  go_enter Tryd.func30, Tryd.ntmps30
  go_wp2
  go_loopg [1, 5] k (fun kq v1 v5 w' => ∃ (x1_1 : List Int) (x5_1 : Int), v5 = .int .i64 x5_1 ∧ Aside0 (utf16_decode.l0 kq l0 x1_1 x5_1 = some r) ∧ Aside0 (kq ≤ k) ∧ Aside0 (Kd.R (Kd.int .i32) 21 w' w0.heap.size (fun k_ => (P1_ k_ ∨ w.heap.size ≤ k_)) v1 x1_1) ∧ Aside0 (Kept w w' (fun k_ => P1_ k_)) ∧ Aside0 (Below w0.heap.size w0 w'))
  case atStart => exact ⟨(l1), (0), (by first | rfl | (simp; done) | (simp [*]; done)), H', ⟨Nat.le_refl _⟩, ⟨by (with_reducible repeat (first | apply Kd.R_alloc | apply Kd.R_drewN | apply Kd.R_drew)); exact HO1.out⟩, ⟨by repeat (first | (with_reducible first | exact HK.out | apply Kept.alloc | apply Kept.drewN | apply Kept.drew) | exact HK.out)⟩, ⟨by repeat (first | (with_reducible first | exact HB.out | apply below_alloc | apply pw_below_drewN | apply below_drew1) | exact HB.out)⟩⟩
  case round =>
    clear H'
    try clear p2
    obtain ⟨x1_1, x5_1, rfl, HA, HK1, HO_1, HK, HB⟩ := hrel
    cases gk with
    | zero => exact absurd HA.out (by simp [utf16_decode.l0])
    | succ k1 =>
      have H := HA.out
      clear HA
      simp only [utf16_decode.l0] at H
      by_cases c3 : x5_1 < (l0.length : Int)
      · rw [if_pos c3] at H
        have c3b0 : decide (x5_1 < (l0.length : Int)) = true := decide_eq_true c3
        clear c3
        by_cases c4 : 0 ≤ x5_1
        · rw [if_pos c4] at H
          have c4b0 : decide (0 ≤ x5_1) = true := decide_eq_true c4
          clear c4
          have HC5 := Aside0.mk H
          clear H
          have p179 : 0 ≤ (x5_1 : Int) := of_decide_eq_true (by first | (with_reducible assumption) | assumption)
          have q179 : x5_1 < (l0.length : Int) := of_decide_eq_true (by first | (with_reducible assumption) | assumption)
          obtain ⟨ad179, e179, hx179_0⟩ := Kd.at_int (Kd.C_kept_now HR0.out HK.out) x5_1 p179 q179
          cases e179
          replace p179 := eq_true p179
          replace q179 := eq_true q179
          go_upto_if 18 with (fail)
          go_cut [18] (fun v18 wc => ∃ (kq : Nat) (x18_4 : Bool), v18 = .bool x18_4 ∧ Aside0 (utf16_decode.j1 kq l0 x1_1 x5_1 (rd l0 x5_1) x18_4 = some r) ∧ Aside0 (kq ≤ k1) ∧ Aside0 (Kd.R (Kd.int .i32) 21 wc w0.heap.size (fun k_ => (P1_ k_ ∨ w.heap.size ≤ k_)) u1 x1_1) ∧ Aside0 (Kept w wc (fun k_ => P1_ k_)) ∧ Aside0 (Below w0.heap.size w0 wc))
          case first =>
            have H := HC5.out
            clear HC5
            by_cases c6 : (rd l0 x5_1) < 55296
            · rw [if_pos c6] at H
              have c6b0 : decide ((rd l0 x5_1) < 55296) = true := decide_eq_true c6
              clear c6
              (first | rw [c6b0] | (simp only [i64_w, i32_w]; rw [c6b0]) | skip)
              have H' := Aside0.mk H
              clear H
              go_wp2
              go_meet
              case rel => exact ⟨_, (decide ((rd l0 x5_1) < 55296)), (by first | rfl | (simp; done) | (simp [*]; done)), H', ⟨by have := HK1.out; first | omega | exact Nat.le_refl _⟩, ⟨by (with_reducible repeat (first | apply Kd.R_alloc | apply Kd.R_drewN | apply Kd.R_drew)); exact HO_1.out⟩, ⟨by repeat (first | (with_reducible first | exact HK.out | apply Kept.alloc | apply Kept.drewN | apply Kept.drew) | exact HK.out)⟩, ⟨by repeat (first | (with_reducible first | exact HB.out | apply below_alloc | apply pw_below_drewN | apply below_drew1) | exact HB.out)⟩⟩
            · rw [if_neg c6] at H
              have c6b0 : decide ((rd l0 x5_1) < 55296) = false := decide_eq_false c6
              clear c6
              (first | rw [c6b0] | (simp only [i64_w, i32_w]; rw [c6b0]) | skip)
              have H' := Aside0.mk H
              clear H
              go_wp2
              go_meet
              case rel => exact ⟨_, (decide (57344 ≤ (rd l0 x5_1))), (by first | rfl | (simp; done) | (simp [*]; done)), H', ⟨by have := HK1.out; first | omega | exact Nat.le_refl _⟩, ⟨by (with_reducible repeat (first | apply Kd.R_alloc | apply Kd.R_drewN | apply Kd.R_drew)); exact HO_1.out⟩, ⟨by repeat (first | (with_reducible first | exact HK.out | apply Kept.alloc | apply Kept.drewN | apply Kept.drew) | exact HK.out)⟩, ⟨by repeat (first | (with_reducible first | exact HB.out | apply below_alloc | apply pw_below_drewN | apply below_drew1) | exact HB.out)⟩⟩
          case rest =>
            clear HC5
            try clear p1
            try clear q1
            try clear hx1
            try clear p2
            try clear c3
            try clear c3b0
            try clear c4
            try clear c4b0
            try clear c6
            try clear c6b0
            try clear hx179_0
            try clear p179
            try clear p2
            try clear q179
            obtain ⟨kq, x18_4, rfl, HA, HJ4, HO_1, HK, HB⟩ := hcut
            cases kq with
            | zero => exact absurd HA.out (by simp [utf16_decode.j1])
            | succ kj4 =>
              have H := HA.out
              clear HA
              simp only [utf16_decode.j1] at H
              by_cases c7 : x18_4 = true
              · subst c7
                have H1 : (if x1_1.length < 35184372088832 then (utf16_decode.l0 kj4 l0 (x1_1 ++ [wrap32 ((rd l0 x5_1))]) (wrap64 (x5_1 + 1))) else (none)) = some r := by rw [if_pos rfl] at H; exact H
                clear H
                have H := H1
                clear H1
                by_cases c8 : x1_1.length < 35184372088832
                · rw [if_pos c8] at H
                  have LMc8 := Aside0.mk c8
                  clear c8
                  obtain ⟨y180, hy180⟩ : ∃ y_ : List Int, y_ = (x1_1 ++ [wrap32 ((rd l0 x5_1))]) := ⟨_, rfl⟩
                  replace H : (utf16_decode.l0 kj4 l0 y180 (wrap64 (x5_1 + 1))) = some r := by first | (rw [hy180]; with_reducible exact H) | (have H2_ := (Option.bind_some _ _).symm.trans H; rw [hy180]; with_reducible exact H2_) | (have H2_ := (Option.bind_some _ _).symm.trans H; with_reducible exact H2_) | with_reducible exact H | (rw [hy180]; exact H) | exact H
                  have Ny180 := Aside0.mk hy180
                  clear hy180
                  have H' := Aside0.mk H
                  clear H
                  go_wp2_with (first | ((with_reducible refine gate_builtin (b := .append) (xs := #[.tmp 66, .tmp 68]) rfl ?_); (try (refine gate_guard (by rfl) ?_; dsimp only)); at_builtin; refine Kd.R_append (Kd.int .i32) (w0 := w0) w0.heap.size rfl (.tmp 66) (.tmp 68) 41 21 (.int .i32 0) 4 rfl Tryd.underlying41 info21 rfl (by decide) (by omega) u1 x1_1 (wrap32 ((rd l0 x5_1))) [.int .i32 (wrap32 ((rd l0 x5_1)))] (fun k_ => (P1_ k_ ∨ w.heap.size ≤ k_)) (fun _ => False) rfl rfl ?aP (fun _ hk => hk.elim) ?aF ?aO ?aB ?aS ?aL ?_; (case aP => exact rfl); (case aB => exact (by repeat (first | (with_reducible first | exact HB.out | apply below_alloc | apply pw_below_drewN | apply below_drew1) | exact HB.out))); (case aF => exact (fun k_ hk => (.inr (Nat.le_trans (by first | exact HK.out.1 | exact (show Kept w _ (fun k_ => P1_ k_) from by repeat (first | (with_reducible first | exact HK.out | apply Kept.alloc | apply Kept.drewN | apply Kept.drew) | exact HK.out)).1) hk)))); (case aO => exact (by (with_reducible repeat (first | apply Kd.R_alloc | apply Kd.R_drewN | apply Kd.R_drew)); exact HO_1.out)); (case aS => exact (below_size (by repeat (first | (with_reducible first | exact HB.out | apply below_alloc | apply pw_below_drewN | apply below_drew1) | exact HB.out)))); (case aL => have := LMc8.out; omega); intro v181 w9 ho hb hg hat; rw [← Ny180.out] at ho; have n0_ := Aside0.mk (hb); have n1_ := Aside0.mk (Kept.of_grown (S := (fun k_ => P1_ k_)) hg (by repeat (first | (with_reducible first | exact HK.out | apply Kept.alloc | apply Kept.drewN | apply Kept.drew) | exact HK.out)) (fun k_ e_ => (HO_1.out.1 k_ e_))); have n2_ := Aside0.mk (ho); clear HB; clear HK; clear HO_1; have HB := n0_; have HK := n1_; have HO182 := n2_; clear n0_ n1_ n2_; clear ho hb hg hat))
                  go_roundg kj4
                  case measure => have := HK1.out; have := HJ4.out; omega
                  case rel => exact ⟨(y180), (wrap64 (x5_1 + 1)), (by first | rfl | (simp; done) | (simp [*]; done)), H', ⟨by have := HK1.out; have := HJ4.out; omega⟩, ⟨by (with_reducible repeat (first | apply Kd.R_alloc | apply Kd.R_drewN | apply Kd.R_drew)); exact HO182.out⟩, ⟨by repeat (first | (with_reducible first | exact HK.out | apply Kept.alloc | apply Kept.drewN | apply Kept.drew) | exact HK.out)⟩, ⟨by repeat (first | (with_reducible first | exact HB.out | apply below_alloc | apply pw_below_drewN | apply below_drew1) | exact HB.out)⟩⟩
                · rw [if_neg c8] at H
                  exact absurd H (by simp)
              · replace c7 := Bool.eq_false_iff.mpr c7
                subst c7
                have H1 : (if 55296 ≤ (rd l0 x5_1) then (if (rd l0 x5_1) < 56320 then (if (wrap64 (x5_1 + 1)) < (l0.length : Int) then (if 0 ≤ (wrap64 (x5_1 + 1)) then (if 56320 ≤ (rd l0 (wrap64 (x5_1 + 1))) then (if (rd l0 (wrap64 (x5_1 + 1))) < 57344 then ((utf16_DecodeRune.f (wrap32 ((rd l0 x5_1))) (wrap32 (rd l0 (wrap64 (x5_1 + 1))))).bind fun t186 => (if x1_1.length < 35184372088832 then (utf16_decode.l0 kj4 l0 (x1_1 ++ [t186]) (wrap64 ((wrap64 (x5_1 + 1)) + 1))) else (none))) else (if x1_1.length < 35184372088832 then (utf16_decode.l0 kj4 l0 (x1_1 ++ [65533]) (wrap64 (x5_1 + 1))) else (none))) else (if x1_1.length < 35184372088832 then (utf16_decode.l0 kj4 l0 (x1_1 ++ [65533]) (wrap64 (x5_1 + 1))) else (none))) else (none)) else (if x1_1.length < 35184372088832 then (utf16_decode.l0 kj4 l0 (x1_1 ++ [65533]) (wrap64 (x5_1 + 1))) else (none))) else (if x1_1.length < 35184372088832 then (utf16_decode.l0 kj4 l0 (x1_1 ++ [65533]) (wrap64 (x5_1 + 1))) else (none))) else (if x1_1.length < 35184372088832 then (utf16_decode.l0 kj4 l0 (x1_1 ++ [65533]) (wrap64 (x5_1 + 1))) else (none))) = some r := by rw [if_neg (show ¬ (false = true) by decide)] at H; exact H
                clear H
                have H := H1
                clear H1
                by_cases c10 : 55296 ≤ (rd l0 x5_1)
                · rw [if_pos c10] at H
                  have c10b0 : decide (55296 ≤ (rd l0 x5_1)) = true := decide_eq_true c10
                  clear c10
                  by_cases c11 : (rd l0 x5_1) < 56320
                  · rw [if_pos c11] at H
                    have c11b0 : decide ((rd l0 x5_1) < 56320) = true := decide_eq_true c11
                    clear c11
                    by_cases c12 : (wrap64 (x5_1 + 1)) < (l0.length : Int)
                    · rw [if_pos c12] at H
                      have c12b0 : decide ((wrap64 (x5_1 + 1)) < (l0.length : Int)) = true := decide_eq_true c12
                      clear c12
                      obtain ⟨ji13, hji13⟩ : ∃ j_ : Int, (wrap64 (x5_1 + 1)) = j_ := ⟨_, rfl⟩
                      replace H : (if 0 ≤ (ji13) then (if 56320 ≤ (rd l0 (ji13)) then (if (rd l0 (ji13)) < 57344 then ((utf16_DecodeRune.f (wrap32 ((rd l0 x5_1))) (wrap32 (rd l0 (ji13)))).bind fun t186 => (if x1_1.length < 35184372088832 then (utf16_decode.l0 kj4 l0 (x1_1 ++ [t186]) (wrap64 ((ji13) + 1))) else (none))) else (if x1_1.length < 35184372088832 then (utf16_decode.l0 kj4 l0 (x1_1 ++ [65533]) ji13) else (none))) else (if x1_1.length < 35184372088832 then (utf16_decode.l0 kj4 l0 (x1_1 ++ [65533]) ji13) else (none))) else (none)) = some r := by first | (rw [hji13] at H; exact H) | (simp only [hji13] at H ⊢; exact H)
                      (try rw [hji13] at c12b0)
                      have hji13w : (IntKind.i64.wrap (x5_1 + 1)) = ji13 := (i64_w _).trans hji13
                      by_cases c14 : 0 ≤ (ji13)
                      · rw [if_pos c14] at H
                        have c14b0 : decide (0 ≤ (ji13)) = true := decide_eq_true c14
                        clear c14
                        by_cases c15 : 56320 ≤ (rd l0 (ji13))
                        · rw [if_pos c15] at H
                          have c15b0 : decide (56320 ≤ (rd l0 (ji13))) = true := decide_eq_true c15
                          clear c15
                          by_cases c16 : (rd l0 (ji13)) < 57344
                          · rw [if_pos c16] at H
                            have c16b0 : decide ((rd l0 (ji13)) < 57344) = true := decide_eq_true c16
                            clear c16
                            replace H := Option.bind_eq_some_iff.mp H
                            obtain ⟨t186, A170, H⟩ := H
                            replace H : (if x1_1.length < 35184372088832 then (utf16_decode.l0 kj4 l0 (x1_1 ++ [t186]) (wrap64 ((ji13) + 1))) else (none)) = some r := H
                            have A17 := Aside0.mk A170
                            clear A170
                            by_cases c18 : x1_1.length < 35184372088832
                            · rw [if_pos c18] at H
                              have LMc18 := Aside0.mk c18
                              clear c18
                              obtain ⟨y187, hy187⟩ : ∃ y_ : List Int, y_ = (x1_1 ++ [t186]) := ⟨_, rfl⟩
                              replace H : (utf16_decode.l0 kj4 l0 y187 (wrap64 ((ji13) + 1))) = some r := by first | (rw [hy187]; with_reducible exact H) | (have H2_ := (Option.bind_some _ _).symm.trans H; rw [hy187]; with_reducible exact H2_) | (have H2_ := (Option.bind_some _ _).symm.trans H; with_reducible exact H2_) | with_reducible exact H | (rw [hy187]; exact H) | exact H
                              have Ny187 := Aside0.mk hy187
                              clear hy187
                              have H' := Aside0.mk H
                              clear H
                              have p183 : 0 ≤ ((ji13) : Int) := of_decide_eq_true (by first | (with_reducible assumption) | assumption)
                              have q183 : (ji13) < (l0.length : Int) := of_decide_eq_true (by first | (with_reducible assumption) | assumption)
                              obtain ⟨ad183, e183, hx183_0⟩ := Kd.at_int (Kd.C_kept_now HR0.out HK.out) (ji13) p183 q183
                              obtain rfl : ad179 = ad183 := (by injection e183)
                              replace p183 := eq_true p183
                              replace q183 := eq_true q183
                              have p184 : 0 ≤ ((ji13) : Int) := of_decide_eq_true (by first | (with_reducible assumption) | assumption)
                              have q184 : (ji13) < (l0.length : Int) := of_decide_eq_true (by first | (with_reducible assumption) | assumption)
                              obtain ⟨ad184, e184, hx184_0⟩ := Kd.at_int (Kd.C_kept_now HR0.out HK.out) (ji13) p184 q184
                              obtain rfl : ad179 = ad184 := (by injection e184)
                              replace p184 := eq_true p184
                              replace q184 := eq_true q184
                              have p185 : 0 ≤ ((ji13) : Int) := of_decide_eq_true (by first | (with_reducible assumption) | assumption)
                              have q185 : (ji13) < (l0.length : Int) := of_decide_eq_true (by first | (with_reducible assumption) | assumption)
                              obtain ⟨ad185, e185, hx185_0⟩ := Kd.at_int (Kd.C_kept_now HR0.out HK.out) (ji13) p185 q185
                              obtain rfl : ad179 = ad185 := (by injection e185)
                              replace p185 := eq_true p185
                              replace q185 := eq_true q185
                              go_wp2_with (first | ((with_reducible refine gate_callee (f := 31) rfl ?_); refine goesL_ (some 63) rfl rfl Tryd.func31 (by kernel_rfl) rfl #[.int .i32 (wrap32 ((rd l0 x5_1))), .int .i32 (wrap32 (rd l0 (ji13)))] rfl (by (try simp only [List.map_toArray, List.map_cons, List.map_nil]); first | done | (simp only [hji13]; rfl) | rfl | (simp only [List.length_drop, List.length_take]; rfl)) ?_; (with_reducible refine (utf16_DecodeRune.calls (wrap32 ((rd l0 x5_1))) (wrap32 (rd l0 (ji13))) t186 _ A17.out).mono ?_); rintro e w' ⟨rfl, ⟨nd, rfl⟩⟩; refine ⟨_, rfl, ?_⟩) | ((with_reducible refine gate_builtin (b := .append) (xs := #[.tmp 66, .tmp 68]) rfl ?_); (try (refine gate_guard (by rfl) ?_; dsimp only)); at_builtin; refine Kd.R_append (Kd.int .i32) (w0 := w0) w0.heap.size rfl (.tmp 66) (.tmp 68) 41 21 (.int .i32 0) 4 rfl Tryd.underlying41 info21 rfl (by decide) (by omega) u1 x1_1 t186 [.int .i32 t186] (fun k_ => (P1_ k_ ∨ w.heap.size ≤ k_)) (fun _ => False) rfl rfl ?aP (fun _ hk => hk.elim) ?aF ?aO ?aB ?aS ?aL ?_; (case aP => exact rfl); (case aB => exact (by repeat (first | (with_reducible first | exact HB.out | apply below_alloc | apply pw_below_drewN | apply below_drew1) | exact HB.out))); (case aF => exact (fun k_ hk => (.inr (Nat.le_trans (by first | exact HK.out.1 | exact (show Kept w _ (fun k_ => P1_ k_) from by repeat (first | (with_reducible first | exact HK.out | apply Kept.alloc | apply Kept.drewN | apply Kept.drew) | exact HK.out)).1) hk)))); (case aO => exact (by (with_reducible repeat (first | apply Kd.R_alloc | apply Kd.R_drewN | apply Kd.R_drew)); exact HO_1.out)); (case aS => exact (below_size (by repeat (first | (with_reducible first | exact HB.out | apply below_alloc | apply pw_below_drewN | apply below_drew1) | exact HB.out)))); (case aL => have := LMc18.out; omega); intro v188 w19 ho hb hg hat; rw [← Ny187.out] at ho; have n0_ := Aside0.mk (hb); have n1_ := Aside0.mk (Kept.of_grown (S := (fun k_ => P1_ k_)) hg (by repeat (first | (with_reducible first | exact HK.out | apply Kept.alloc | apply Kept.drewN | apply Kept.drew) | exact HK.out)) (fun k_ e_ => (HO_1.out.1 k_ e_))); have n2_ := Aside0.mk (ho); clear HB; clear HK; clear HO_1; have HB := n0_; have HK := n1_; have HO189 := n2_; clear n0_ n1_ n2_; clear ho hb hg hat))
                              go_roundg kj4
                              case measure => have := HK1.out; have := HJ4.out; omega
                              case rel => exact ⟨(y187), (wrap64 ((ji13) + 1)), (by first | rfl | (simp; done) | (simp only [← hji13] <;> (first | rfl | simp)) | (simp [*]; done)), H', ⟨by have := HK1.out; have := HJ4.out; omega⟩, ⟨by (with_reducible repeat (first | apply Kd.R_alloc | apply Kd.R_drewN | apply Kd.R_drew)); exact HO189.out⟩, ⟨by repeat (first | (with_reducible first | exact HK.out | apply Kept.alloc | apply Kept.drewN | apply Kept.drew) | exact HK.out)⟩, ⟨by repeat (first | (with_reducible first | exact HB.out | apply below_alloc | apply pw_below_drewN | apply below_drew1) | exact HB.out)⟩⟩
                            · rw [if_neg c18] at H
                              exact absurd H (by simp)
                          · rw [if_neg c16] at H
                            have c16b0 : decide ((rd l0 (ji13)) < 57344) = false := decide_eq_false c16
                            clear c16
                            by_cases c20 : x1_1.length < 35184372088832
                            · rw [if_pos c20] at H
                              have LMc20 := Aside0.mk c20
                              clear c20
                              obtain ⟨y190, hy190⟩ : ∃ y_ : List Int, y_ = (x1_1 ++ [65533]) := ⟨_, rfl⟩
                              replace H : (utf16_decode.l0 kj4 l0 y190 ji13) = some r := by first | (rw [hy190]; with_reducible exact H) | (have H2_ := (Option.bind_some _ _).symm.trans H; rw [hy190]; with_reducible exact H2_) | (have H2_ := (Option.bind_some _ _).symm.trans H; with_reducible exact H2_) | with_reducible exact H | (rw [hy190]; exact H) | exact H
                              have Ny190 := Aside0.mk hy190
                              clear hy190
                              have H' := Aside0.mk H
                              clear H
                              have p183 : 0 ≤ ((ji13) : Int) := of_decide_eq_true (by first | (with_reducible assumption) | assumption)
                              have q183 : (ji13) < (l0.length : Int) := of_decide_eq_true (by first | (with_reducible assumption) | assumption)
                              obtain ⟨ad183, e183, hx183_0⟩ := Kd.at_int (Kd.C_kept_now HR0.out HK.out) (ji13) p183 q183
                              obtain rfl : ad179 = ad183 := (by injection e183)
                              replace p183 := eq_true p183
                              replace q183 := eq_true q183
                              have p184 : 0 ≤ ((ji13) : Int) := of_decide_eq_true (by first | (with_reducible assumption) | assumption)
                              have q184 : (ji13) < (l0.length : Int) := of_decide_eq_true (by first | (with_reducible assumption) | assumption)
                              obtain ⟨ad184, e184, hx184_0⟩ := Kd.at_int (Kd.C_kept_now HR0.out HK.out) (ji13) p184 q184
                              obtain rfl : ad179 = ad184 := (by injection e184)
                              replace p184 := eq_true p184
                              replace q184 := eq_true q184
                              go_wp2_with (first | ((with_reducible refine gate_builtin (b := .append) (xs := #[.tmp 66, .tmp 68]) rfl ?_); (try (refine gate_guard (by rfl) ?_; dsimp only)); at_builtin; refine Kd.R_append (Kd.int .i32) (w0 := w0) w0.heap.size rfl (.tmp 66) (.tmp 68) 41 21 (.int .i32 0) 4 rfl Tryd.underlying41 info21 rfl (by decide) (by omega) u1 x1_1 65533 [.int .i32 65533] (fun k_ => (P1_ k_ ∨ w.heap.size ≤ k_)) (fun _ => False) rfl rfl ?aP (fun _ hk => hk.elim) ?aF ?aO ?aB ?aS ?aL ?_; (case aP => exact rfl); (case aB => exact (by repeat (first | (with_reducible first | exact HB.out | apply below_alloc | apply pw_below_drewN | apply below_drew1) | exact HB.out))); (case aF => exact (fun k_ hk => (.inr (Nat.le_trans (by first | exact HK.out.1 | exact (show Kept w _ (fun k_ => P1_ k_) from by repeat (first | (with_reducible first | exact HK.out | apply Kept.alloc | apply Kept.drewN | apply Kept.drew) | exact HK.out)).1) hk)))); (case aO => exact (by (with_reducible repeat (first | apply Kd.R_alloc | apply Kd.R_drewN | apply Kd.R_drew)); exact HO_1.out)); (case aS => exact (below_size (by repeat (first | (with_reducible first | exact HB.out | apply below_alloc | apply pw_below_drewN | apply below_drew1) | exact HB.out)))); (case aL => have := LMc20.out; omega); intro v191 w21 ho hb hg hat; rw [← Ny190.out] at ho; have n0_ := Aside0.mk (hb); have n1_ := Aside0.mk (Kept.of_grown (S := (fun k_ => P1_ k_)) hg (by repeat (first | (with_reducible first | exact HK.out | apply Kept.alloc | apply Kept.drewN | apply Kept.drew) | exact HK.out)) (fun k_ e_ => (HO_1.out.1 k_ e_))); have n2_ := Aside0.mk (ho); clear HB; clear HK; clear HO_1; have HB := n0_; have HK := n1_; have HO192 := n2_; clear n0_ n1_ n2_; clear ho hb hg hat))
                              go_roundg kj4
                              case measure => have := HK1.out; have := HJ4.out; omega
                              case rel => exact ⟨(y190), (ji13), (by first | rfl | (simp; done) | (simp only [← hji13] <;> (first | rfl | simp)) | (simp [*]; done)), H', ⟨by have := HK1.out; have := HJ4.out; omega⟩, ⟨by (with_reducible repeat (first | apply Kd.R_alloc | apply Kd.R_drewN | apply Kd.R_drew)); exact HO192.out⟩, ⟨by repeat (first | (with_reducible first | exact HK.out | apply Kept.alloc | apply Kept.drewN | apply Kept.drew) | exact HK.out)⟩, ⟨by repeat (first | (with_reducible first | exact HB.out | apply below_alloc | apply pw_below_drewN | apply below_drew1) | exact HB.out)⟩⟩
                            · rw [if_neg c20] at H
                              exact absurd H (by simp)
                        · rw [if_neg c15] at H
                          have c15b0 : decide (56320 ≤ (rd l0 (ji13))) = false := decide_eq_false c15
                          clear c15
                          by_cases c22 : x1_1.length < 35184372088832
                          · rw [if_pos c22] at H
                            have LMc22 := Aside0.mk c22
                            clear c22
                            obtain ⟨y193, hy193⟩ : ∃ y_ : List Int, y_ = (x1_1 ++ [65533]) := ⟨_, rfl⟩
                            replace H : (utf16_decode.l0 kj4 l0 y193 ji13) = some r := by first | (rw [hy193]; with_reducible exact H) | (have H2_ := (Option.bind_some _ _).symm.trans H; rw [hy193]; with_reducible exact H2_) | (have H2_ := (Option.bind_some _ _).symm.trans H; with_reducible exact H2_) | with_reducible exact H | (rw [hy193]; exact H) | exact H
                            have Ny193 := Aside0.mk hy193
                            clear hy193
                            have H' := Aside0.mk H
                            clear H
                            have p183 : 0 ≤ ((ji13) : Int) := of_decide_eq_true (by first | (with_reducible assumption) | assumption)
                            have q183 : (ji13) < (l0.length : Int) := of_decide_eq_true (by first | (with_reducible assumption) | assumption)
                            obtain ⟨ad183, e183, hx183_0⟩ := Kd.at_int (Kd.C_kept_now HR0.out HK.out) (ji13) p183 q183
                            obtain rfl : ad179 = ad183 := (by injection e183)
                            replace p183 := eq_true p183
                            replace q183 := eq_true q183
                            go_wp2_with (first | ((with_reducible refine gate_builtin (b := .append) (xs := #[.tmp 66, .tmp 68]) rfl ?_); (try (refine gate_guard (by rfl) ?_; dsimp only)); at_builtin; refine Kd.R_append (Kd.int .i32) (w0 := w0) w0.heap.size rfl (.tmp 66) (.tmp 68) 41 21 (.int .i32 0) 4 rfl Tryd.underlying41 info21 rfl (by decide) (by omega) u1 x1_1 65533 [.int .i32 65533] (fun k_ => (P1_ k_ ∨ w.heap.size ≤ k_)) (fun _ => False) rfl rfl ?aP (fun _ hk => hk.elim) ?aF ?aO ?aB ?aS ?aL ?_; (case aP => exact rfl); (case aB => exact (by repeat (first | (with_reducible first | exact HB.out | apply below_alloc | apply pw_below_drewN | apply below_drew1) | exact HB.out))); (case aF => exact (fun k_ hk => (.inr (Nat.le_trans (by first | exact HK.out.1 | exact (show Kept w _ (fun k_ => P1_ k_) from by repeat (first | (with_reducible first | exact HK.out | apply Kept.alloc | apply Kept.drewN | apply Kept.drew) | exact HK.out)).1) hk)))); (case aO => exact (by (with_reducible repeat (first | apply Kd.R_alloc | apply Kd.R_drewN | apply Kd.R_drew)); exact HO_1.out)); (case aS => exact (below_size (by repeat (first | (with_reducible first | exact HB.out | apply below_alloc | apply pw_below_drewN | apply below_drew1) | exact HB.out)))); (case aL => have := LMc22.out; omega); intro v194 w23 ho hb hg hat; rw [← Ny193.out] at ho; have n0_ := Aside0.mk (hb); have n1_ := Aside0.mk (Kept.of_grown (S := (fun k_ => P1_ k_)) hg (by repeat (first | (with_reducible first | exact HK.out | apply Kept.alloc | apply Kept.drewN | apply Kept.drew) | exact HK.out)) (fun k_ e_ => (HO_1.out.1 k_ e_))); have n2_ := Aside0.mk (ho); clear HB; clear HK; clear HO_1; have HB := n0_; have HK := n1_; have HO195 := n2_; clear n0_ n1_ n2_; clear ho hb hg hat))
                            go_roundg kj4
                            case measure => have := HK1.out; have := HJ4.out; omega
                            case rel => exact ⟨(y193), (ji13), (by first | rfl | (simp; done) | (simp only [← hji13] <;> (first | rfl | simp)) | (simp [*]; done)), H', ⟨by have := HK1.out; have := HJ4.out; omega⟩, ⟨by (with_reducible repeat (first | apply Kd.R_alloc | apply Kd.R_drewN | apply Kd.R_drew)); exact HO195.out⟩, ⟨by repeat (first | (with_reducible first | exact HK.out | apply Kept.alloc | apply Kept.drewN | apply Kept.drew) | exact HK.out)⟩, ⟨by repeat (first | (with_reducible first | exact HB.out | apply below_alloc | apply pw_below_drewN | apply below_drew1) | exact HB.out)⟩⟩
                          · rw [if_neg c22] at H
                            exact absurd H (by simp)
                      · rw [if_neg c14] at H
                        exact absurd H (by simp)
                    · rw [if_neg c12] at H
                      have c12b0 : decide ((wrap64 (x5_1 + 1)) < (l0.length : Int)) = false := decide_eq_false c12
                      clear c12
                      by_cases c24 : x1_1.length < 35184372088832
                      · rw [if_pos c24] at H
                        have LMc24 := Aside0.mk c24
                        clear c24
                        obtain ⟨y196, hy196⟩ : ∃ y_ : List Int, y_ = (x1_1 ++ [65533]) := ⟨_, rfl⟩
                        replace H : (utf16_decode.l0 kj4 l0 y196 (wrap64 (x5_1 + 1))) = some r := by first | (rw [hy196]; with_reducible exact H) | (have H2_ := (Option.bind_some _ _).symm.trans H; rw [hy196]; with_reducible exact H2_) | (have H2_ := (Option.bind_some _ _).symm.trans H; with_reducible exact H2_) | with_reducible exact H | (rw [hy196]; exact H) | exact H
                        have Ny196 := Aside0.mk hy196
                        clear hy196
                        have H' := Aside0.mk H
                        clear H
                        go_wp2_with (first | ((with_reducible refine gate_builtin (b := .append) (xs := #[.tmp 66, .tmp 68]) rfl ?_); (try (refine gate_guard (by rfl) ?_; dsimp only)); at_builtin; refine Kd.R_append (Kd.int .i32) (w0 := w0) w0.heap.size rfl (.tmp 66) (.tmp 68) 41 21 (.int .i32 0) 4 rfl Tryd.underlying41 info21 rfl (by decide) (by omega) u1 x1_1 65533 [.int .i32 65533] (fun k_ => (P1_ k_ ∨ w.heap.size ≤ k_)) (fun _ => False) rfl rfl ?aP (fun _ hk => hk.elim) ?aF ?aO ?aB ?aS ?aL ?_; (case aP => exact rfl); (case aB => exact (by repeat (first | (with_reducible first | exact HB.out | apply below_alloc | apply pw_below_drewN | apply below_drew1) | exact HB.out))); (case aF => exact (fun k_ hk => (.inr (Nat.le_trans (by first | exact HK.out.1 | exact (show Kept w _ (fun k_ => P1_ k_) from by repeat (first | (with_reducible first | exact HK.out | apply Kept.alloc | apply Kept.drewN | apply Kept.drew) | exact HK.out)).1) hk)))); (case aO => exact (by (with_reducible repeat (first | apply Kd.R_alloc | apply Kd.R_drewN | apply Kd.R_drew)); exact HO_1.out)); (case aS => exact (below_size (by repeat (first | (with_reducible first | exact HB.out | apply below_alloc | apply pw_below_drewN | apply below_drew1) | exact HB.out)))); (case aL => have := LMc24.out; omega); intro v197 w25 ho hb hg hat; rw [← Ny196.out] at ho; have n0_ := Aside0.mk (hb); have n1_ := Aside0.mk (Kept.of_grown (S := (fun k_ => P1_ k_)) hg (by repeat (first | (with_reducible first | exact HK.out | apply Kept.alloc | apply Kept.drewN | apply Kept.drew) | exact HK.out)) (fun k_ e_ => (HO_1.out.1 k_ e_))); have n2_ := Aside0.mk (ho); clear HB; clear HK; clear HO_1; have HB := n0_; have HK := n1_; have HO198 := n2_; clear n0_ n1_ n2_; clear ho hb hg hat))
                        go_roundg kj4
                        case measure => have := HK1.out; have := HJ4.out; omega
                        case rel => exact ⟨(y196), (wrap64 (x5_1 + 1)), (by first | rfl | (simp; done) | (simp [*]; done)), H', ⟨by have := HK1.out; have := HJ4.out; omega⟩, ⟨by (with_reducible repeat (first | apply Kd.R_alloc | apply Kd.R_drewN | apply Kd.R_drew)); exact HO198.out⟩, ⟨by repeat (first | (with_reducible first | exact HK.out | apply Kept.alloc | apply Kept.drewN | apply Kept.drew) | exact HK.out)⟩, ⟨by repeat (first | (with_reducible first | exact HB.out | apply below_alloc | apply pw_below_drewN | apply below_drew1) | exact HB.out)⟩⟩
                      · rw [if_neg c24] at H
                        exact absurd H (by simp)
                  · rw [if_neg c11] at H
                    have c11b0 : decide ((rd l0 x5_1) < 56320) = false := decide_eq_false c11
                    clear c11
                    by_cases c26 : x1_1.length < 35184372088832
                    · rw [if_pos c26] at H
                      have LMc26 := Aside0.mk c26
                      clear c26
                      obtain ⟨y199, hy199⟩ : ∃ y_ : List Int, y_ = (x1_1 ++ [65533]) := ⟨_, rfl⟩
                      replace H : (utf16_decode.l0 kj4 l0 y199 (wrap64 (x5_1 + 1))) = some r := by first | (rw [hy199]; with_reducible exact H) | (have H2_ := (Option.bind_some _ _).symm.trans H; rw [hy199]; with_reducible exact H2_) | (have H2_ := (Option.bind_some _ _).symm.trans H; with_reducible exact H2_) | with_reducible exact H | (rw [hy199]; exact H) | exact H
                      have Ny199 := Aside0.mk hy199
                      clear hy199
                      have H' := Aside0.mk H
                      clear H
                      go_wp2_with (first | ((with_reducible refine gate_builtin (b := .append) (xs := #[.tmp 66, .tmp 68]) rfl ?_); (try (refine gate_guard (by rfl) ?_; dsimp only)); at_builtin; refine Kd.R_append (Kd.int .i32) (w0 := w0) w0.heap.size rfl (.tmp 66) (.tmp 68) 41 21 (.int .i32 0) 4 rfl Tryd.underlying41 info21 rfl (by decide) (by omega) u1 x1_1 65533 [.int .i32 65533] (fun k_ => (P1_ k_ ∨ w.heap.size ≤ k_)) (fun _ => False) rfl rfl ?aP (fun _ hk => hk.elim) ?aF ?aO ?aB ?aS ?aL ?_; (case aP => exact rfl); (case aB => exact (by repeat (first | (with_reducible first | exact HB.out | apply below_alloc | apply pw_below_drewN | apply below_drew1) | exact HB.out))); (case aF => exact (fun k_ hk => (.inr (Nat.le_trans (by first | exact HK.out.1 | exact (show Kept w _ (fun k_ => P1_ k_) from by repeat (first | (with_reducible first | exact HK.out | apply Kept.alloc | apply Kept.drewN | apply Kept.drew) | exact HK.out)).1) hk)))); (case aO => exact (by (with_reducible repeat (first | apply Kd.R_alloc | apply Kd.R_drewN | apply Kd.R_drew)); exact HO_1.out)); (case aS => exact (below_size (by repeat (first | (with_reducible first | exact HB.out | apply below_alloc | apply pw_below_drewN | apply below_drew1) | exact HB.out)))); (case aL => have := LMc26.out; omega); intro v200 w27 ho hb hg hat; rw [← Ny199.out] at ho; have n0_ := Aside0.mk (hb); have n1_ := Aside0.mk (Kept.of_grown (S := (fun k_ => P1_ k_)) hg (by repeat (first | (with_reducible first | exact HK.out | apply Kept.alloc | apply Kept.drewN | apply Kept.drew) | exact HK.out)) (fun k_ e_ => (HO_1.out.1 k_ e_))); have n2_ := Aside0.mk (ho); clear HB; clear HK; clear HO_1; have HB := n0_; have HK := n1_; have HO201 := n2_; clear n0_ n1_ n2_; clear ho hb hg hat))
                      go_roundg kj4
                      case measure => have := HK1.out; have := HJ4.out; omega
                      case rel => exact ⟨(y199), (wrap64 (x5_1 + 1)), (by first | rfl | (simp; done) | (simp [*]; done)), H', ⟨by have := HK1.out; have := HJ4.out; omega⟩, ⟨by (with_reducible repeat (first | apply Kd.R_alloc | apply Kd.R_drewN | apply Kd.R_drew)); exact HO201.out⟩, ⟨by repeat (first | (with_reducible first | exact HK.out | apply Kept.alloc | apply Kept.drewN | apply Kept.drew) | exact HK.out)⟩, ⟨by repeat (first | (with_reducible first | exact HB.out | apply below_alloc | apply pw_below_drewN | apply below_drew1) | exact HB.out)⟩⟩
                    · rw [if_neg c26] at H
                      exact absurd H (by simp)
                · rw [if_neg c10] at H
                  have c10b0 : decide (55296 ≤ (rd l0 x5_1)) = false := decide_eq_false c10
                  clear c10
                  by_cases c28 : x1_1.length < 35184372088832
                  · rw [if_pos c28] at H
                    have LMc28 := Aside0.mk c28
                    clear c28
                    obtain ⟨y202, hy202⟩ : ∃ y_ : List Int, y_ = (x1_1 ++ [65533]) := ⟨_, rfl⟩
                    replace H : (utf16_decode.l0 kj4 l0 y202 (wrap64 (x5_1 + 1))) = some r := by first | (rw [hy202]; with_reducible exact H) | (have H2_ := (Option.bind_some _ _).symm.trans H; rw [hy202]; with_reducible exact H2_) | (have H2_ := (Option.bind_some _ _).symm.trans H; with_reducible exact H2_) | with_reducible exact H | (rw [hy202]; exact H) | exact H
                    have Ny202 := Aside0.mk hy202
                    clear hy202
                    have H' := Aside0.mk H
                    clear H
                    go_wp2_with (first | ((with_reducible refine gate_builtin (b := .append) (xs := #[.tmp 66, .tmp 68]) rfl ?_); (try (refine gate_guard (by rfl) ?_; dsimp only)); at_builtin; refine Kd.R_append (Kd.int .i32) (w0 := w0) w0.heap.size rfl (.tmp 66) (.tmp 68) 41 21 (.int .i32 0) 4 rfl Tryd.underlying41 info21 rfl (by decide) (by omega) u1 x1_1 65533 [.int .i32 65533] (fun k_ => (P1_ k_ ∨ w.heap.size ≤ k_)) (fun _ => False) rfl rfl ?aP (fun _ hk => hk.elim) ?aF ?aO ?aB ?aS ?aL ?_; (case aP => exact rfl); (case aB => exact (by repeat (first | (with_reducible first | exact HB.out | apply below_alloc | apply pw_below_drewN | apply below_drew1) | exact HB.out))); (case aF => exact (fun k_ hk => (.inr (Nat.le_trans (by first | exact HK.out.1 | exact (show Kept w _ (fun k_ => P1_ k_) from by repeat (first | (with_reducible first | exact HK.out | apply Kept.alloc | apply Kept.drewN | apply Kept.drew) | exact HK.out)).1) hk)))); (case aO => exact (by (with_reducible repeat (first | apply Kd.R_alloc | apply Kd.R_drewN | apply Kd.R_drew)); exact HO_1.out)); (case aS => exact (below_size (by repeat (first | (with_reducible first | exact HB.out | apply below_alloc | apply pw_below_drewN | apply below_drew1) | exact HB.out)))); (case aL => have := LMc28.out; omega); intro v203 w29 ho hb hg hat; rw [← Ny202.out] at ho; have n0_ := Aside0.mk (hb); have n1_ := Aside0.mk (Kept.of_grown (S := (fun k_ => P1_ k_)) hg (by repeat (first | (with_reducible first | exact HK.out | apply Kept.alloc | apply Kept.drewN | apply Kept.drew) | exact HK.out)) (fun k_ e_ => (HO_1.out.1 k_ e_))); have n2_ := Aside0.mk (ho); clear HB; clear HK; clear HO_1; have HB := n0_; have HK := n1_; have HO204 := n2_; clear n0_ n1_ n2_; clear ho hb hg hat))
                    go_roundg kj4
                    case measure => have := HK1.out; have := HJ4.out; omega
                    case rel => exact ⟨(y202), (wrap64 (x5_1 + 1)), (by first | rfl | (simp; done) | (simp [*]; done)), H', ⟨by have := HK1.out; have := HJ4.out; omega⟩, ⟨by (with_reducible repeat (first | apply Kd.R_alloc | apply Kd.R_drewN | apply Kd.R_drew)); exact HO204.out⟩, ⟨by repeat (first | (with_reducible first | exact HK.out | apply Kept.alloc | apply Kept.drewN | apply Kept.drew) | exact HK.out)⟩, ⟨by repeat (first | (with_reducible first | exact HB.out | apply below_alloc | apply pw_below_drewN | apply below_drew1) | exact HB.out)⟩⟩
                  · rw [if_neg c28] at H
                    exact absurd H (by simp)
        · rw [if_neg c4] at H
          exact absurd H (by simp)
      · rw [if_neg c3] at H
        have c3b0 : decide (x5_1 < (l0.length : Int)) = false := decide_eq_false c3
        clear c3
        obtain rfl := Option.some.inj H
        go_wp2
        go_ret
        exact ⟨_, by first | rfl | (simp [errW_none, errW_some] <;> rfl) | (simp [*, errW_none, errW_some] <;> rfl), by (with_reducible repeat (first | apply Kd.R_alloc | apply Kd.R_drewN | apply Kd.R_drew)); exact HO_1.out, by repeat (first | (with_reducible first | exact HB.out | apply below_alloc | apply pw_below_drewN | apply below_drew1) | exact HB.out), by repeat (first | (with_reducible first | exact HK.out | apply Kept.alloc | apply Kept.drewN | apply Kept.drew) | exact HK.out)⟩

/-! ### utf16_Decode: function 24 -/
def utf16_Decode.f (k : Nat) (l0 : List Int) : Option (List Int) := if 64 ≤ 70368744177664 then ((utf16_decode.f k l0 (([] : List Int))).bind fun t208 => (some t208)) else (none)
theorem utf16_Decode.mono : ∀ a0 k, LeO (utf16_Decode.f k a0) (utf16_Decode.f (k + 1) a0) := by
  intro a0 k
  unfold utf16_Decode.f
  repeat' first
      | (with_reducible exact utf16_decode.mono _ _ _)
      | (with_reducible exact LeO.refl _)
      | (with_reducible exact LeO.none _)
      | (with_reducible refine LeO.ite ?_ ?_)
      | (with_reducible refine LeO.bind ?_ (fun _ => ?_))
      | exact utf16_decode.mono _ _ _
      | exact LeO.none _
      | refine LeO.ite ?_ ?_
      | refine LeO.bind ?_ (fun _ => ?_)
set_option maxHeartbeats 8000000 in
set_option maxRecDepth 100000 in
theorem utf16_Decode.calls (k : Nat) (A0 : Option Addr) (c0 : Nat) (l0 : List Int) (r : List Int) (w : World) (hr0 : Kd.C (Kd.int .u16) w A0 l0.length l0) (hc0 : l0.length ≤ c0) (h : utf16_Decode.f k l0 = some r) :
    Calls Tryd.prog 24 #[.slice A0 l0.length c0] w fun e w' => ∃ v0_ : Value, e = .returned (v0_) ∧ Kd.R (Kd.int .i32) 21 w' w.heap.size (fun _ => True) v0_ r ∧ Below w.heap.size w w' := by
  have HR0 := Aside0.mk hr0
  have HC0 := Aside0.mk hc0
  clear hr0 hc0
  have HB := Aside0.mk (Below.refl w.heap.size w)
  have H : (if 64 ≤ 70368744177664 then ((utf16_decode.f k l0 (([] : List Int))).bind fun t208 => (some t208)) else (none)) = some r := h
  clear h
  by_cases c2 : 64 ≤ 70368744177664
  · rw [if_pos c2] at H
    have c2b0 := eq_true c2
    have c2b1 : decide (64 ≤ 70368744177664) = true := decide_eq_true c2
    clear c2
    obtain ⟨y205, hy205⟩ : ∃ y_ : List Int, y_ = (([] : List Int)) := ⟨_, rfl⟩
    replace H : ((utf16_decode.f k l0 y205).bind fun t208 => (some t208)) = some r := by first | (rw [hy205]; with_reducible exact H) | (have H2_ := (Option.bind_some _ _).symm.trans H; rw [hy205]; with_reducible exact H2_) | (have H2_ := (Option.bind_some _ _).symm.trans H; with_reducible exact H2_) | with_reducible exact H | (rw [hy205]; exact H) | exact H
    have Ny205 := Aside0.mk hy205
    clear hy205
    replace H := Option.bind_eq_some_iff.mp H
    obtain ⟨t208, A30, H⟩ := H
    replace H : (some t208) = some r := H
    have A3 := Aside0.mk A30
    clear A30
    obtain rfl := Option.some.inj H
    go_enter Tryd.func24, Tryd.ntmps24
    go_wp2_with (first | ((with_reducible refine gate_dst (N := 4) rfl ?_); refine R_makecap (Kd.int .i32) _ 21 rfl (N := 4) rfl 41 _ _ rfl 64 rfl rfl Tryd.underlying41 (.int .i32 0) 4 info21 (by decide) (by omega) (ok := fun _ => True) (_okp := fun _ => True) trivial (by omega) (by omega) (Below.refl _ _) (Nat.le_refl _) ?_; intro v206 w4 ho5 hb hg_ hnew_; clear hg_ hnew_; (first | rw [← Ny205.out] at ho5 | (simp only [Int.reduceToNat] at ho5; rw [← Ny205.out] at ho5)); have n0_ := Aside0.mk (Kd.R_lower ho5 (below_size (by repeat (first | (with_reducible first | exact HB.out | apply below_alloc | apply pw_below_drewN | apply below_drew1) | exact HB.out)))); have n1_ := Aside0.mk (below_step (by repeat (first | (with_reducible first | exact HB.out | apply below_alloc | apply pw_below_drewN | apply below_drew1) | exact HB.out)) hb); clear HB; have HO207 := n0_; have HB := n1_; clear n0_ n1_; clear hb ho5; obtain ⟨Ao6, co6, eo6⟩ := Kd.R_slice HO207.out; subst eo6) | ((with_reducible refine gate_callee (f := 30) rfl ?_); refine goesL_ (some 7) rfl rfl Tryd.func30 (by kernel_rfl) rfl #[.slice A0 l0.length c0, .slice Ao6 y205.length co6] rfl (by (try simp only [List.map_toArray, List.map_cons, List.map_nil]); first | done | rfl | (simp only [List.length_drop, List.length_take]; rfl)) ?_; (with_reducible refine (utf16_decode.calls k _ _ l0 (fun k_ => some k_ = (.slice Ao6 y205.length co6 : Value).ownBlock) (.slice Ao6 y205.length co6) y205 t208 w _ ?side1 ?side2 ?side3 ?side4 A3.out).mono ?_); (case side1 => repeat (first | (with_reducible first | exact HB.out | apply below_alloc | apply pw_below_drewN | apply below_drew1) | exact HB.out)); (case side2 => exact Kd.C_kept_came (Kd.heap_int .u16) HR0.out (by repeat (first | (with_reducible first | exact HB.out | apply below_alloc | apply pw_below_drewN | apply below_drew1) | exact HB.out)) (fun k_ hs_ => (fun e_ => Kd.R_base HO207.out k_ e_.symm) hs_)); (case side3 => exact HC0.out); (case side4 => exact Kd.R_tight rfl HO207.out); rintro e w7 ⟨v209, rfl, ho0, hb, hkp⟩; refine ⟨_, rfl, ?_⟩; have n0_ := Aside0.mk (Kd.R_mono (ok' := fun k_ => True) ho0 (fun k_ hk_ => trivial)); have n1_ := Aside0.mk (hb); clear HB; clear HO207; have HO210 := n0_; have HB := n1_; clear n0_ n1_; (try clear hb); (try clear hkp); (try clear ho0)))
    go_ret
    exact ⟨_, by first | rfl | (simp [errW_none, errW_some] <;> rfl) | (simp [*, errW_none, errW_some] <;> rfl), by (with_reducible repeat (first | apply Kd.R_alloc | apply Kd.R_drewN | apply Kd.R_drew)); exact HO210.out, by repeat (first | (with_reducible first | exact HB.out | apply below_alloc | apply pw_below_drewN | apply below_drew1) | exact HB.out)⟩
  · rw [if_neg c2] at H
    exact absurd H (by simp)

end Go.Proofs.YtllaepgbpmiglaaDoor.QFnEscape
