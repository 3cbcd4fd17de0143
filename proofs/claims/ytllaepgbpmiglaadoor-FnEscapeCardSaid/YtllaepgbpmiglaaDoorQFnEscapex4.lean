-- Written by a program of this session out of the translation (a copy of the kit's print, turned). Not trusted: Lean checks it.
import Derived.Test.YtllaepgbpmiglaaDoorQFnEscapex0
import Derived.Test.YtllaepgbpmiglaaDoorQFnEscapex3
namespace Go.Proofs.YtllaepgbpmiglaaDoor.QFnEscape
open Go.RowKit Go.Proofs.YtllaepgbpmiglaaDoorW.PrintWords Go.Proofs.YtllaepgbpmiglaaDoorW.PrintLast Go.Proofs.YtllaepgbpmiglaaDoorW.PrintMore
attribute [local go_sem] max2_int min2_int max_two min_two max_three min_three max_four min_four   -- for this text's walks alone
set_option linter.unusedVariables false
set_option linter.unusedSimpArgs false

/-! ### utf16_Encode: function 22 -/
mutual
def utf16_Encode.l0 : Nat → List Int → Int → List Int → Int → Int → Option (List Int)
  | 0, _, _, _, _, _ => none
  | k + 1, x0, x3, x13, x14, x15 => if x15 < x14 then (if 0 ≤ x15 then (if x15 < (x13.length : Int) then (if (rd x13 x15) ≥ 65536 then (utf16_Encode.l0 k x0 (wrap64 (x3 + 1)) x13 x14 (wrap64 (x15 + 1))) else (utf16_Encode.l0 k x0 x3 x13 x14 (wrap64 (x15 + 1)))) else (none)) else (none)) else (if 0 ≤ x3 then (if (x3 : Int).toNat ≤ 140737488355328 then (utf16_Encode.l1 k 0 (List.replicate (x3 : Int).toNat 0) x0 (x0.length : Int) 0) else (none)) else (none))
def utf16_Encode.l1 : Nat → Int → List Int → List Int → Int → Int → Option (List Int)
  | 0, _, _, _, _, _ => none
  | k + 1, x3, x6, x26, x27, x28 => if x28 < x27 then (if 0 ≤ x28 then (if x28 < (x26.length : Int) then ((utf16_RuneLen.f k (rd x26 x28)).bind fun t125 => (if t125 = 1 then (if 0 ≤ x3 then (if x3 < (x6.length : Int) then (utf16_Encode.l1 k (wrap64 (x3 + 1)) (x6.set (x3 : Int).toNat (IntKind.u16.wrap (rd x26 x28))) x26 x27 (wrap64 (x28 + 1))) else (none)) else (none)) else (if t125 = 2 then ((utf16_EncodeRune.f (rd x26 x28)).bind fun bt127 => (if 0 ≤ x3 then (if x3 < (x6.length : Int) then (if 0 ≤ (wrap64 (x3 + 1)) then (if (wrap64 (x3 + 1)) < (x6.length : Int) then (utf16_Encode.l1 k (wrap64 (x3 + 2)) ((x6.set (x3 : Int).toNat (IntKind.u16.wrap (bt127.1))).set ((wrap64 (x3 + 1)) : Int).toNat (IntKind.u16.wrap (bt127.2))) x26 x27 (wrap64 (x28 + 1))) else (none)) else (none)) else (none)) else (none))) else (if 0 ≤ x3 then (if x3 < (x6.length : Int) then (utf16_Encode.l1 k (wrap64 (x3 + 1)) (x6.set (x3 : Int).toNat 65533) x26 x27 (wrap64 (x28 + 1))) else (none)) else (none))))) else (none)) else (none)) else (if 0 ≤ x3 then (if x3 ≤ (x6.length : Int) then (some (x6.take (x3 : Int).toNat)) else (none)) else (none))
end
def utf16_Encode.f (k : Nat) (l0 : List Int) : Option (List Int) := utf16_Encode.l0 k l0 (l0.length : Int) l0 (l0.length : Int) 0
theorem utf16_Encode.mono_l : ∀ k, (∀ y0 y1 y2 y3 y4, LeO (utf16_Encode.l0 k y0 y1 y2 y3 y4) (utf16_Encode.l0 (k + 1) y0 y1 y2 y3 y4)) ∧ (∀ y0 y1 y2 y3 y4, LeO (utf16_Encode.l1 k y0 y1 y2 y3 y4) (utf16_Encode.l1 (k + 1) y0 y1 y2 y3 y4))
  | 0 => ⟨fun _ _ _ _ _ r h => by simp [utf16_Encode.l0] at h, fun _ _ _ _ _ r h => by simp [utf16_Encode.l1] at h⟩
  | k + 1 => by
    obtain ⟨ih0, ih1⟩ := utf16_Encode.mono_l k
    refine ⟨?_, ?_⟩
    · intro y0 y1 y2 y3 y4
      unfold utf16_Encode.l0
      repeat' first
      | (with_reducible exact ih0 _ _ _ _ _)
      | (with_reducible exact ih1 _ _ _ _ _)
      | (with_reducible exact utf16_RuneLen.mono _ _)
      | (with_reducible exact LeO.refl _)
      | (with_reducible exact LeO.none _)
      | (with_reducible refine LeO.ite ?_ ?_)
      | (with_reducible refine LeO.bind ?_ (fun _ => ?_))
      | exact ih0 _ _ _ _ _
      | exact ih1 _ _ _ _ _
      | exact utf16_RuneLen.mono _ _
      | exact LeO.none _
      | refine LeO.ite ?_ ?_
      | refine LeO.bind ?_ (fun _ => ?_)
    · intro y0 y1 y2 y3 y4
      unfold utf16_Encode.l1
      repeat' first
      | (with_reducible exact ih0 _ _ _ _ _)
      | (with_reducible exact ih1 _ _ _ _ _)
      | (with_reducible exact utf16_RuneLen.mono _ _)
      | (with_reducible exact LeO.refl _)
      | (with_reducible exact LeO.none _)
      | (with_reducible refine LeO.ite ?_ ?_)
      | (with_reducible refine LeO.bind ?_ (fun _ => ?_))
      | exact ih0 _ _ _ _ _
      | exact ih1 _ _ _ _ _
      | exact utf16_RuneLen.mono _ _
      | exact LeO.none _
      | refine LeO.ite ?_ ?_
      | refine LeO.bind ?_ (fun _ => ?_)
theorem utf16_Encode.mono : ∀ a0 k, LeO (utf16_Encode.f k a0) (utf16_Encode.f (k + 1) a0) := by
  intro a0 k
  obtain ⟨ih0, ih1⟩ := utf16_Encode.mono_l k
  unfold utf16_Encode.f
  repeat' first
      | (with_reducible exact ih0 _ _ _ _ _)
      | (with_reducible exact ih1 _ _ _ _ _)
      | (with_reducible exact utf16_RuneLen.mono _ _)
      | (with_reducible exact LeO.refl _)
      | (with_reducible exact LeO.none _)
      | (with_reducible refine LeO.ite ?_ ?_)
      | (with_reducible refine LeO.bind ?_ (fun _ => ?_))
      | exact ih0 _ _ _ _ _
      | exact ih1 _ _ _ _ _
      | exact utf16_RuneLen.mono _ _
      | exact LeO.none _
      | refine LeO.ite ?_ ?_
      | refine LeO.bind ?_ (fun _ => ?_)
set_option maxHeartbeats 8000000 in
set_option maxRecDepth 100000 in
theorem utf16_Encode.calls (k : Nat) (A0 : Option Addr) (c0 : Nat) (l0 : List Int) (r : List Int) (w : World) (hr0 : Kd.C (Kd.int .i32) w A0 l0.length l0) (hc0 : l0.length ≤ c0) (h : utf16_Encode.f k l0 = some r) :
    Calls Tryd.prog 22 #[.slice A0 l0.length c0] w fun e w' => ∃ v0_ : Value, e = .returned (v0_) ∧ Kd.R (Kd.int .u16) 38 w' w.heap.size (fun _ => True) v0_ r ∧ Below w.heap.size w w' := by
  have HR0 := Aside0.mk hr0
  have HC0 := Aside0.mk hc0
  clear hr0 hc0
  have HB := Aside0.mk (Below.refl w.heap.size w)
  have H : (utf16_Encode.l0 k l0 (l0.length : Int) l0 (l0.length : Int) 0) = some r := h
  clear h
  have H' := Aside0.mk H
  clear H
  go_enter Tryd.func22, Tryd.ntmps22
  go_wp2
  go_loopg [3, 15] k (fun kq v3 v15 w' => ∃ (x3_1 : Int) (x15_1 : Int), v3 = .int .i64 x3_1 ∧ v15 = .int .i64 x15_1 ∧ Aside0 (utf16_Encode.l0 kq l0 x3_1 l0 (l0.length : Int) x15_1 = some r) ∧ Aside0 (kq ≤ k) ∧ Aside0 (Below w.heap.size w w'))
  case atStart => exact ⟨((l0.length : Int)), (0), (by first | rfl | (simp; done) | (simp [*]; done)), (by first | rfl | (simp; done) | (simp [*]; done)), H', ⟨Nat.le_refl _⟩, ⟨by repeat (first | (with_reducible first | exact HB.out | apply below_alloc | apply pw_below_drewN | apply below_drew1) | exact HB.out)⟩⟩
  case round =>
    clear H'
    obtain ⟨x3_1, x15_1, rfl, rfl, HA, HK1, HB⟩ := hrel
    cases gk with
    | zero => exact absurd HA.out (by simp [utf16_Encode.l0])
    | succ k1 =>
      have H := HA.out
      clear HA
      simp only [utf16_Encode.l0] at H
      by_cases c2 : x15_1 < (l0.length : Int)
      · rw [if_pos c2] at H
        have c2b0 : decide (x15_1 < (l0.length : Int)) = true := decide_eq_true c2
        clear c2
        by_cases c3 : 0 ≤ x15_1
        · rw [if_pos c3] at H
          have c3b0 : decide (0 ≤ x15_1) = true := decide_eq_true c3
          clear c3
          by_cases c4 : x15_1 < (l0.length : Int)
          · rw [if_pos c4] at H
            have c4b0 : decide (x15_1 < (l0.length : Int)) = true := decide_eq_true c4
            clear c4
            by_cases c5 : (rd l0 x15_1) ≥ 65536
            · rw [if_pos c5] at H
              have c5b0 : decide (65536 ≤ (rd l0 x15_1)) = true := decide_eq_true c5
              clear c5
              have H' := Aside0.mk H
              clear H
              have p117 : 0 ≤ (x15_1 : Int) := of_decide_eq_true (by first | (with_reducible assumption) | assumption)
              have q117 : x15_1 < (l0.length : Int) := of_decide_eq_true (by first | (with_reducible assumption) | assumption)
              obtain ⟨ad117, e117, hx117_0⟩ := Kd.at_int HR0.out x15_1 p117 q117
              cases e117
              replace hx117_0 := (HB.out.cell (World.block_lt_of_cell? w _ hx117_0)).trans hx117_0
              replace p117 := eq_true p117
              replace q117 := eq_true q117
              go_wp2
              go_roundg k1
              case measure => have := HK1.out; omega
              case rel => exact ⟨(wrap64 (x3_1 + 1)), (wrap64 (x15_1 + 1)), (by first | rfl | (simp; done) | (simp [*]; done)), (by first | rfl | (simp; done) | (simp [*]; done)), H', ⟨by have := HK1.out; omega⟩, ⟨by repeat (first | (with_reducible first | exact HB.out | apply below_alloc | apply pw_below_drewN | apply below_drew1) | exact HB.out)⟩⟩
            · rw [if_neg c5] at H
              have c5b0 : decide (65536 ≤ (rd l0 x15_1)) = false := decide_eq_false c5
              clear c5
              have H' := Aside0.mk H
              clear H
              have p117 : 0 ≤ (x15_1 : Int) := of_decide_eq_true (by first | (with_reducible assumption) | assumption)
              have q117 : x15_1 < (l0.length : Int) := of_decide_eq_true (by first | (with_reducible assumption) | assumption)
              obtain ⟨ad117, e117, hx117_0⟩ := Kd.at_int HR0.out x15_1 p117 q117
              cases e117
              replace hx117_0 := (HB.out.cell (World.block_lt_of_cell? w _ hx117_0)).trans hx117_0
              replace p117 := eq_true p117
              replace q117 := eq_true q117
              go_wp2
              go_roundg k1
              case measure => have := HK1.out; omega
              case rel => exact ⟨(x3_1), (wrap64 (x15_1 + 1)), (by first | rfl | (simp; done) | (simp [*]; done)), (by first | rfl | (simp; done) | (simp [*]; done)), H', ⟨by have := HK1.out; omega⟩, ⟨by repeat (first | (with_reducible first | exact HB.out | apply below_alloc | apply pw_below_drewN | apply below_drew1) | exact HB.out)⟩⟩
          · rw [if_neg c4] at H
            exact absurd H (by simp)
        · rw [if_neg c3] at H
          exact absurd H (by simp)
      · rw [if_neg c2] at H
        have c2b0 : decide (x15_1 < (l0.length : Int)) = false := decide_eq_false c2
        clear c2
        by_cases c6 : 0 ≤ x3_1
        · rw [if_pos c6] at H
          have c6b0 := eq_true c6
          have c6b1 : decide (0 ≤ x3_1) = true := decide_eq_true c6
          clear c6
          by_cases c7 : (x3_1 : Int).toNat ≤ 140737488355328
          · rw [if_pos c7] at H
            have c7b0 := eq_true c7
            have c7b1 : decide ((x3_1 : Int).toNat ≤ 140737488355328) = true := decide_eq_true c7
            clear c7
            obtain ⟨y118, hy118⟩ : ∃ y_ : List Int, y_ = (List.replicate (x3_1 : Int).toNat 0) := ⟨_, rfl⟩
            replace H : (utf16_Encode.l1 k1 0 y118 l0 (l0.length : Int) 0) = some r := by first | (rw [hy118]; with_reducible exact H) | (have H2_ := (Option.bind_some _ _).symm.trans H; rw [hy118]; with_reducible exact H2_) | (have H2_ := (Option.bind_some _ _).symm.trans H; with_reducible exact H2_) | with_reducible exact H | (rw [hy118]; exact H) | exact H
            have Ny118 := Aside0.mk hy118
            clear hy118
            have H' := Aside0.mk H
            clear H
            go_wp2_with (first | ((with_reducible refine gate_dst (N := 25) rfl ?_); refine Kd.R_make (Kd.int .u16) _ 38 rfl (N := 25) rfl 39 _ _ rfl x3_1 rfl rfl Tryd.underlying39 (.int .u16 0) 2 info38 rfl (by decide) (by omega) 0 (ok := fun _ => True) (okp := fun _ => True) rfl (fun _ hk => hk) trivial (of_decide_eq_true (by first | (with_reducible assumption) | assumption)) (Nat.le_trans (Nat.mul_le_mul_right _ (of_decide_eq_true (by first | (with_reducible assumption) | assumption) : x3_1.toNat ≤ 140737488355328)) (by omega)) (Below.refl _ _) (Nat.le_refl _) ?_; intro v119 w8 ho9 hb hg_ hnew_; clear hg_ hnew_; (first | rw [← Ny118.out] at ho9 | (simp only [Int.reduceToNat] at ho9; rw [← Ny118.out] at ho9)); have n0_ := Aside0.mk (Kd.R_lower ho9 (below_size (by repeat (first | (with_reducible first | exact HB.out | apply below_alloc | apply pw_below_drewN | apply below_drew1) | exact HB.out)))); have n1_ := Aside0.mk (below_step (by repeat (first | (with_reducible first | exact HB.out | apply below_alloc | apply pw_below_drewN | apply below_drew1) | exact HB.out)) hb); clear HB; have HO120 := n0_; have HB := n1_; clear n0_ n1_; clear hb ho9))
            go_loopg [3, 28] k1 (fun kq v3 v28 w' => ∃ (x3_2 : Int) (x6_2 : List Int) (x28_2 : Int), v3 = .int .i64 x3_2 ∧ v28 = .int .i64 x28_2 ∧ Aside0 (utf16_Encode.l1 kq x3_2 x6_2 l0 (l0.length : Int) x28_2 = some r) ∧ Aside0 (kq ≤ k1) ∧ Aside0 (Kd.R (Kd.int .u16) 38 w' w.heap.size (fun _ => True) v119 x6_2) ∧ Aside0 (Below w.heap.size w w'))
            case atStart => exact ⟨(0), (y118), (0), (by first | rfl | (simp; done) | (simp [*]; done)), (by first | rfl | (simp; done) | (simp [*]; done)), H', ⟨Nat.le_refl _⟩, ⟨by (with_reducible repeat (first | apply Kd.R_alloc | apply Kd.R_drewN | apply Kd.R_drew)); exact HO120.out⟩, ⟨by repeat (first | (with_reducible first | exact HB.out | apply below_alloc | apply pw_below_drewN | apply below_drew1) | exact HB.out)⟩⟩
            case round =>
              clear H'
              try clear p1
              try clear q1
              try clear hx1
              try clear c2
              try clear c2b0
              try clear p2
              try clear c3
              try clear c3b0
              try clear c4
              try clear c4b0
              try clear c5
              try clear c5b0
              try clear c6
              try clear c6b0
              try clear c6b1
              try clear p6
              try clear c7
              try clear c7b0
              try clear c7b1
              try clear hx117_0
              try clear p117
              try clear q117
              obtain ⟨x3_2, x6_2, x28_2, rfl, rfl, HA, HK2, HO_6, HB⟩ := hrel
              cases gk with
              | zero => exact absurd HA.out (by simp [utf16_Encode.l1])
              | succ k2 =>
                have H := HA.out
                clear HA
                simp only [utf16_Encode.l1] at H
                by_cases c10 : x28_2 < (l0.length : Int)
                · rw [if_pos c10] at H
                  have c10b0 : decide (x28_2 < (l0.length : Int)) = true := decide_eq_true c10
                  clear c10
                  by_cases c11 : 0 ≤ x28_2
                  · rw [if_pos c11] at H
                    have c11b0 : decide (0 ≤ x28_2) = true := decide_eq_true c11
                    clear c11
                    by_cases c12 : x28_2 < (l0.length : Int)
                    · rw [if_pos c12] at H
                      have c12b0 : decide (x28_2 < (l0.length : Int)) = true := decide_eq_true c12
                      clear c12
                      replace H := Option.bind_eq_some_iff.mp H
                      obtain ⟨t125, A130, H⟩ := H
                      replace H : (if t125 = 1 then (if 0 ≤ x3_2 then (if x3_2 < (x6_2.length : Int) then (utf16_Encode.l1 k2 (wrap64 (x3_2 + 1)) (x6_2.set (x3_2 : Int).toNat (IntKind.u16.wrap (rd l0 x28_2))) l0 (l0.length : Int) (wrap64 (x28_2 + 1))) else (none)) else (none)) else (if t125 = 2 then ((utf16_EncodeRune.f (rd l0 x28_2)).bind fun bt127 => (if 0 ≤ x3_2 then (if x3_2 < (x6_2.length : Int) then (if 0 ≤ (wrap64 (x3_2 + 1)) then (if (wrap64 (x3_2 + 1)) < (x6_2.length : Int) then (utf16_Encode.l1 k2 (wrap64 (x3_2 + 2)) ((x6_2.set (x3_2 : Int).toNat (IntKind.u16.wrap (bt127.1))).set ((wrap64 (x3_2 + 1)) : Int).toNat (IntKind.u16.wrap (bt127.2))) l0 (l0.length : Int) (wrap64 (x28_2 + 1))) else (none)) else (none)) else (none)) else (none))) else (if 0 ≤ x3_2 then (if x3_2 < (x6_2.length : Int) then (utf16_Encode.l1 k2 (wrap64 (x3_2 + 1)) (x6_2.set (x3_2 : Int).toNat 65533) l0 (l0.length : Int) (wrap64 (x28_2 + 1))) else (none)) else (none)))) = some r := H
                      have A13 := Aside0.mk A130
                      clear A130
                      by_cases c14 : t125 = 1
                      · rw [if_pos c14] at H
                        have c14b0 : (t125 == 1) = true := beq_iff_eq.mpr c14
                        have c14b1 : (t125 != 1) = false := bne_eq_false_iff_eq.mpr c14
                        clear c14
                        by_cases c15 : 0 ≤ x3_2
                        · rw [if_pos c15] at H
                          have c15b0 : decide (0 ≤ x3_2) = true := decide_eq_true c15
                          clear c15
                          by_cases c16 : x3_2 < (x6_2.length : Int)
                          · rw [if_pos c16] at H
                            have c16b0 : decide (x3_2 < (x6_2.length : Int)) = true := decide_eq_true c16
                            clear c16
                            obtain ⟨y126, hy126⟩ : ∃ y_ : List Int, y_ = (x6_2.set (x3_2 : Int).toNat (IntKind.u16.wrap (rd l0 x28_2))) := ⟨_, rfl⟩
                            replace H : (utf16_Encode.l1 k2 (wrap64 (x3_2 + 1)) y126 l0 (l0.length : Int) (wrap64 (x28_2 + 1))) = some r := by first | (rw [hy126]; with_reducible exact H) | (have H2_ := (Option.bind_some _ _).symm.trans H; rw [hy126]; with_reducible exact H2_) | (have H2_ := (Option.bind_some _ _).symm.trans H; with_reducible exact H2_) | with_reducible exact H | (rw [hy126]; exact H) | exact H
                            have Ny126 := Aside0.mk hy126
                            clear hy126
                            have H' := Aside0.mk H
                            clear H
                            have p124 : 0 ≤ (x28_2 : Int) := of_decide_eq_true (by first | (with_reducible assumption) | assumption)
                            have q124 : x28_2 < (l0.length : Int) := of_decide_eq_true (by first | (with_reducible assumption) | assumption)
                            obtain ⟨ad124, e124, hx124_0⟩ := Kd.at_int HR0.out x28_2 p124 q124
                            cases e124
                            replace hx124_0 := (HB.out.cell (World.block_lt_of_cell? w _ hx124_0)).trans hx124_0
                            replace p124 := eq_true p124
                            replace q124 := eq_true q124
                            go_wp2_with (first | ((with_reducible refine gate_callee (f := 27) rfl ?_); refine goesL_ (some 33) rfl rfl Tryd.func27 (by kernel_rfl) rfl #[.int .i32 (rd l0 x28_2)] rfl (by (try simp only [List.map_toArray, List.map_cons, List.map_nil]); first | done | rfl | (simp only [List.length_drop, List.length_take]; rfl)) ?_; (with_reducible refine (utf16_RuneLen.calls k2 (rd l0 x28_2) t125 _ A13.out).mono ?_); rintro e w' ⟨rfl, ⟨nd, rfl⟩⟩; refine ⟨_, rfl, ?_⟩; (try (rw [drewN_self wr]; generalize hq_ : World.drewN wr _ = wr; have n0_ : Aside0 (Kd.R (Kd.int .u16) 38 wr w.heap.size (fun _ => True) v119 x6_2) := ⟨by rw [← hq_]; exact (by (with_reducible repeat (first | apply Kd.R_alloc | apply Kd.R_drewN | apply Kd.R_drew)); exact HO_6.out)⟩; have n1_ : Aside0 (Below w.heap.size w wr) := ⟨by rw [← hq_]; exact (by repeat (first | (with_reducible first | exact HB.out | apply below_alloc | apply pw_below_drewN | apply below_drew1) | exact HB.out))⟩; clear HO_6 HB hq_; have HO_6 := n0_; have HB := n1_; clear n0_ n1_)); have p17 : 0 ≤ (x3_2 : Int) := of_decide_eq_true (by first | (with_reducible assumption) | assumption); have q17 : (x3_2 : Int) < ((x6_2.length : Int) : Int) := of_decide_eq_true (by first | (with_reducible assumption) | assumption); obtain ⟨go17, co17, eo17, gb17, gl17, cl17, HG17⟩ := Kd.R_form HO_6.out (by omega); (first | cases eo17 | (injection eo17 with ea_ en_ ec_; (first | subst ea_ | (injection ea_ with ea_; subst ea_)); subst ec_; clear en_)); have GB17 := Aside0.mk gb17; have GG17 := Aside0.mk HG17; clear gb17 gl17 HG17; obtain ⟨hx17_0, hf17_0⟩ := Kd.R_celln 0 HO_6.out (x3_2 : Int) p17 q17; replace p17 := eq_true p17; replace q17 := eq_true q17; obtain ⟨hy18_, hz18_⟩ := Kd.R_celln 0 HO_6.out (x3_2 : Int) (of_decide_eq_true (by first | (with_reducible assumption) | assumption)) (of_decide_eq_true (by first | (with_reducible assumption) | assumption)); have HP18 := Kd.R_putg HO_6.out (x3_2 : Int) (IntKind.u16.wrap (rd l0 x28_2))) | ((with_reducible refine gate_store (t := 38) (p := 45) rfl ?_); refine store_event (t := 38) (p := 45) (v := ?vo_w19) (w1 := (wr.setCell ⟨go17, (x3_2 : Int).toNat, none⟩ (.int .u16 (IntKind.u16.wrap (rd l0 x28_2))))) ?hg ?ho ?hn ?hr ?_; (case ho => rfl); (case hg => rfl); (case hn => rfl); (case hr => first | (go_simp; done) | (go_simp; rfl)); intro w19 hw; have hg : wr.grownBy w19 (some go17) := (by rw [hw]; exact HP18.2); have hp_ : Kd.R (Kd.int .u16) 38 w19 w.heap.size (fun _ => True) (.slice (some ⟨go17, 0, none⟩) x6_2.length co17) y126 := (by rw [hw, Ny126.out]; exact HP18.1); clear HP18; have n0_ := Aside0.mk (hp_); have n1_ := Aside0.mk ((by rw [hw]; exact below_set (HB.out) GB17.out : Below w.heap.size w w19)); clear HO_6; clear HB; have HO_6 := n0_; have HB := n1_; clear n0_ n1_; clear hg hw hp_))
                            go_roundg k2
                            case measure => have := HK1.out; have := HK2.out; omega
                            case rel => exact ⟨(wrap64 (x3_2 + 1)), (y126), (wrap64 (x28_2 + 1)), (by first | rfl | (simp; done) | (simp [*]; done)), (by first | rfl | (simp; done) | (simp [*]; done)), H', ⟨by have := HK1.out; have := HK2.out; omega⟩, ⟨by (with_reducible repeat (first | apply Kd.R_alloc | apply Kd.R_drewN | apply Kd.R_drew)); exact HO_6.out⟩, ⟨by repeat (first | (with_reducible first | exact HB.out | apply below_alloc | apply pw_below_drewN | apply below_drew1) | exact HB.out)⟩⟩
                          · rw [if_neg c16] at H
                            exact absurd H (by simp)
                        · rw [if_neg c15] at H
                          exact absurd H (by simp)
                      · rw [if_neg c14] at H
                        have c14b0 : (t125 == 1) = false := beq_eq_false_iff_ne.mpr c14
                        have c14b1 : (t125 != 1) = true := bne_iff_ne.mpr c14
                        by_cases c20 : t125 = 2
                        · rw [if_pos c20] at H
                          have c20b0 : (t125 == 2) = true := beq_iff_eq.mpr c20
                          have c20b1 : (t125 != 2) = false := bne_eq_false_iff_eq.mpr c20
                          clear c20
                          replace H := Option.bind_eq_some_iff.mp H
                          obtain ⟨⟨t127, t128⟩, A210, H⟩ := H
                          replace H : (if 0 ≤ x3_2 then (if x3_2 < (x6_2.length : Int) then (if 0 ≤ (wrap64 (x3_2 + 1)) then (if (wrap64 (x3_2 + 1)) < (x6_2.length : Int) then (utf16_Encode.l1 k2 (wrap64 (x3_2 + 2)) ((x6_2.set (x3_2 : Int).toNat (IntKind.u16.wrap (t127))).set ((wrap64 (x3_2 + 1)) : Int).toNat (IntKind.u16.wrap (t128))) l0 (l0.length : Int) (wrap64 (x28_2 + 1))) else (none)) else (none)) else (none)) else (none)) = some r := H
                          have A21 := Aside0.mk A210
                          clear A210
                          by_cases c22 : 0 ≤ x3_2
                          · rw [if_pos c22] at H
                            have c22b0 : decide (0 ≤ x3_2) = true := decide_eq_true c22
                            clear c22
                            by_cases c23 : x3_2 < (x6_2.length : Int)
                            · rw [if_pos c23] at H
                              have c23b0 : decide (x3_2 < (x6_2.length : Int)) = true := decide_eq_true c23
                              clear c23
                              obtain ⟨y129, hy129⟩ : ∃ y_ : List Int, y_ = (x6_2.set (x3_2 : Int).toNat (IntKind.u16.wrap (t127))) := ⟨_, rfl⟩
                              replace H : (if 0 ≤ (wrap64 (x3_2 + 1)) then (if (wrap64 (x3_2 + 1)) < (x6_2.length : Int) then (utf16_Encode.l1 k2 (wrap64 (x3_2 + 2)) (y129.set ((wrap64 (x3_2 + 1)) : Int).toNat (IntKind.u16.wrap (t128))) l0 (l0.length : Int) (wrap64 (x28_2 + 1))) else (none)) else (none)) = some r := by first | (rw [hy129]; with_reducible exact H) | (have H2_ := (Option.bind_some _ _).symm.trans H; rw [hy129]; with_reducible exact H2_) | (have H2_ := (Option.bind_some _ _).symm.trans H; with_reducible exact H2_) | with_reducible exact H | (rw [hy129]; exact H) | exact H
                              have Ny129 := Aside0.mk hy129
                              clear hy129
                              obtain ⟨ji25, hji25⟩ : ∃ j_ : Int, (wrap64 (x3_2 + 1)) = j_ := ⟨_, rfl⟩
                              replace H : (if 0 ≤ (ji25) then (if (ji25) < (x6_2.length : Int) then (utf16_Encode.l1 k2 (wrap64 (x3_2 + 2)) (y129.set ((ji25) : Int).toNat (IntKind.u16.wrap (t128))) l0 (l0.length : Int) (wrap64 (x28_2 + 1))) else (none)) else (none)) = some r := by first | (rw [hji25] at H; exact H) | (simp only [hji25] at H ⊢; exact H)
                              (try rw [hji25] at A13)
                              (try rw [hji25] at A21)
                              have hji25w : (IntKind.i64.wrap (x3_2 + 1)) = ji25 := (i64_w _).trans hji25
                              by_cases c26 : 0 ≤ (ji25)
                              · rw [if_pos c26] at H
                                have c26b0 : decide (0 ≤ (ji25)) = true := decide_eq_true c26
                                clear c26
                                by_cases c27 : (ji25) < (x6_2.length : Int)
                                · rw [if_pos c27] at H
                                  have c27b0 : decide ((ji25) < (x6_2.length : Int)) = true := decide_eq_true c27
                                  clear c27
                                  obtain ⟨y130, hy130⟩ : ∃ y_ : List Int, y_ = (y129.set ((ji25) : Int).toNat (IntKind.u16.wrap (t128))) := ⟨_, rfl⟩
                                  replace H : (utf16_Encode.l1 k2 (wrap64 (x3_2 + 2)) y130 l0 (l0.length : Int) (wrap64 (x28_2 + 1))) = some r := by first | (rw [hy130]; with_reducible exact H) | (have H2_ := (Option.bind_some _ _).symm.trans H; rw [hy130]; with_reducible exact H2_) | (have H2_ := (Option.bind_some _ _).symm.trans H; with_reducible exact H2_) | with_reducible exact H | (rw [hy130]; exact H) | exact H
                                  have Ny130 := Aside0.mk hy130
                                  clear hy130
                                  have H' := Aside0.mk H
                                  clear H
                                  have p124 : 0 ≤ (x28_2 : Int) := of_decide_eq_true (by first | (with_reducible assumption) | assumption)
                                  have q124 : x28_2 < (l0.length : Int) := of_decide_eq_true (by first | (with_reducible assumption) | assumption)
                                  obtain ⟨ad124, e124, hx124_0⟩ := Kd.at_int HR0.out x28_2 p124 q124
                                  cases e124
                                  replace hx124_0 := (HB.out.cell (World.block_lt_of_cell? w _ hx124_0)).trans hx124_0
                                  replace p124 := eq_true p124
                                  replace q124 := eq_true q124
                                  go_wp2_with (first | ((with_reducible refine gate_callee (f := 27) rfl ?_); refine goesL_ (some 33) rfl rfl Tryd.func27 (by kernel_rfl) rfl #[.int .i32 (rd l0 x28_2)] rfl (by (try simp only [List.map_toArray, List.map_cons, List.map_nil]); first | done | rfl | (simp only [List.length_drop, List.length_take]; rfl)) ?_; (with_reducible refine (utf16_RuneLen.calls k2 (rd l0 x28_2) t125 _ A13.out).mono ?_); rintro e w' ⟨rfl, ⟨nd, rfl⟩⟩; refine ⟨_, rfl, ?_⟩; (try (rw [drewN_self wr]; generalize hq_ : World.drewN wr _ = wr; have n0_ : Aside0 (Kd.R (Kd.int .u16) 38 wr w.heap.size (fun _ => True) v119 x6_2) := ⟨by rw [← hq_]; exact (by (with_reducible repeat (first | apply Kd.R_alloc | apply Kd.R_drewN | apply Kd.R_drew)); exact HO_6.out)⟩; have n1_ : Aside0 (Below w.heap.size w wr) := ⟨by rw [← hq_]; exact (by repeat (first | (with_reducible first | exact HB.out | apply below_alloc | apply pw_below_drewN | apply below_drew1) | exact HB.out))⟩; clear HO_6 HB hq_; have HO_6 := n0_; have HB := n1_; clear n0_ n1_))) | ((with_reducible refine gate_callee (f := 28) rfl ?_); refine goesL_ (some 52) rfl rfl Tryd.func28 (by kernel_rfl) rfl #[.int .i32 (rd l0 x28_2)] rfl (by (try simp only [List.map_toArray, List.map_cons, List.map_nil]); first | done | rfl | (simp only [List.length_drop, List.length_take]; rfl)) ?_; (with_reducible refine (utf16_EncodeRune.calls (rd l0 x28_2) t127 t128 _ A21.out).mono ?_); rintro e w' ⟨rfl, ⟨nd, rfl⟩⟩; refine ⟨_, rfl, ?_⟩; (try (rw [drewN_self wr]; generalize hq_ : World.drewN wr _ = wr; have n0_ : Aside0 (Kd.R (Kd.int .u16) 38 wr w.heap.size (fun _ => True) v119 x6_2) := ⟨by rw [← hq_]; exact (by (with_reducible repeat (first | apply Kd.R_alloc | apply Kd.R_drewN | apply Kd.R_drew)); exact HO_6.out)⟩; have n1_ : Aside0 (Below w.heap.size w wr) := ⟨by rw [← hq_]; exact (by repeat (first | (with_reducible first | exact HB.out | apply below_alloc | apply pw_below_drewN | apply below_drew1) | exact HB.out))⟩; clear HO_6 HB hq_; have HO_6 := n0_; have HB := n1_; clear n0_ n1_)); have p24 : 0 ≤ (x3_2 : Int) := of_decide_eq_true (by first | (with_reducible assumption) | assumption); have q24 : (x3_2 : Int) < ((x6_2.length : Int) : Int) := of_decide_eq_true (by first | (with_reducible assumption) | assumption); obtain ⟨go24, co24, eo24, gb24, gl24, cl24, HG24⟩ := Kd.R_form HO_6.out (by omega); (first | cases eo24 | (injection eo24 with ea_ en_ ec_; (first | subst ea_ | (injection ea_ with ea_; subst ea_)); subst ec_; clear en_)); have GB24 := Aside0.mk gb24; have GG24 := Aside0.mk HG24; clear gb24 gl24 HG24; obtain ⟨hx24_0, hf24_0⟩ := Kd.R_celln 0 HO_6.out (x3_2 : Int) p24 q24; replace p24 := eq_true p24; replace q24 := eq_true q24; obtain ⟨hy29_, hz29_⟩ := Kd.R_celln 0 HO_6.out (x3_2 : Int) (of_decide_eq_true (by first | (with_reducible assumption) | assumption)) (of_decide_eq_true (by first | (with_reducible assumption) | assumption)); have HP29 := Kd.R_putg HO_6.out (x3_2 : Int) (IntKind.u16.wrap (t127))) | ((with_reducible refine gate_store (t := 38) (p := 59) rfl ?_); refine store_event (t := 38) (p := 59) (v := ?vo_w30) (w1 := (wr.setCell ⟨go24, (x3_2 : Int).toNat, none⟩ (.int .u16 (IntKind.u16.wrap (t127))))) ?hg ?ho ?hn ?hr ?_; (case ho => rfl); (case hg => rfl); (case hn => rfl); (case hr => first | (go_simp; done) | (go_simp; rfl)); intro w30 hw; have hg : wr.grownBy w30 (some go24) := (by rw [hw]; exact HP29.2); have hp_ : Kd.R (Kd.int .u16) 38 w30 w.heap.size (fun _ => True) (.slice (some ⟨go24, 0, none⟩) x6_2.length co24) y129 := (by rw [hw, Ny129.out]; exact HP29.1); clear HP29; have n0_ := Aside0.mk (hp_); have n1_ := Aside0.mk ((by rw [hw]; exact below_set (HB.out) GB24.out : Below w.heap.size w w30)); clear HO_6; clear HB; have HO_6 := n0_; have HB := n1_; clear n0_ n1_; clear hg hw hp_; have p28 : 0 ≤ ((ji25) : Int) := of_decide_eq_true (by first | (with_reducible assumption) | assumption); have q28 : ((ji25) : Int) < ((x6_2.length : Int) : Int) := of_decide_eq_true (by first | (with_reducible assumption) | assumption); obtain ⟨hx28_0, hf28_0⟩ := Kd.R_celln 0 HO_6.out ((ji25) : Int) p28 q28; replace p28 := eq_true p28; replace q28 := eq_true q28; obtain ⟨hy31_, hz31_⟩ := Kd.R_celln 0 HO_6.out ((ji25) : Int) (of_decide_eq_true (by first | (with_reducible assumption) | assumption)) (of_decide_eq_true (by first | (with_reducible assumption) | assumption)); have HP31 := Kd.R_putg HO_6.out ((ji25) : Int) (IntKind.u16.wrap (t128))) | ((with_reducible refine gate_store (t := 38) (p := 65) rfl ?_); refine store_event (t := 38) (p := 65) (v := ?vo_w32) (w1 := (w30.setCell ⟨go24, ((ji25) : Int).toNat, none⟩ (.int .u16 (IntKind.u16.wrap (t128))))) ?hg ?ho ?hn ?hr ?_; (case ho => rfl); (case hg => rfl); (case hn => rfl); (case hr => first | (go_simp; done) | (go_simp; rfl)); intro w32 hw; have hg : w30.grownBy w32 (some go24) := (by rw [hw]; exact HP31.2); have hp_ : Kd.R (Kd.int .u16) 38 w32 w.heap.size (fun _ => True) (.slice (some ⟨go24, 0, none⟩) x6_2.length co24) y130 := (by rw [hw, Ny130.out]; exact HP31.1); clear HP31; have n0_ := Aside0.mk (hp_); have n1_ := Aside0.mk ((by rw [hw]; exact below_set (HB.out) GB24.out : Below w.heap.size w w32)); clear HO_6; clear HB; have HO_6 := n0_; have HB := n1_; clear n0_ n1_; clear hg hw hp_))
                                  go_roundg k2
                                  case measure => have := HK1.out; have := HK2.out; omega
                                  case rel => exact ⟨(wrap64 (x3_2 + 2)), (y130), (wrap64 (x28_2 + 1)), (by first | rfl | (simp; done) | (simp [*]; done)), (by first | rfl | (simp; done) | (simp [*]; done)), H', ⟨by have := HK1.out; have := HK2.out; omega⟩, ⟨by (with_reducible repeat (first | apply Kd.R_alloc | apply Kd.R_drewN | apply Kd.R_drew)); exact HO_6.out⟩, ⟨by repeat (first | (with_reducible first | exact HB.out | apply below_alloc | apply pw_below_drewN | apply below_drew1) | exact HB.out)⟩⟩
                                · rw [if_neg c27] at H
                                  exact absurd H (by simp)
                              · rw [if_neg c26] at H
                                exact absurd H (by simp)
                            · rw [if_neg c23] at H
                              exact absurd H (by simp)
                          · rw [if_neg c22] at H
                            exact absurd H (by simp)
                        · rw [if_neg c20] at H
                          have c20b0 : (t125 == 2) = false := beq_eq_false_iff_ne.mpr c20
                          have c20b1 : (t125 != 2) = true := bne_iff_ne.mpr c20
                          by_cases c33 : 0 ≤ x3_2
                          · rw [if_pos c33] at H
                            have c33b0 : decide (0 ≤ x3_2) = true := decide_eq_true c33
                            clear c33
                            by_cases c34 : x3_2 < (x6_2.length : Int)
                            · rw [if_pos c34] at H
                              have c34b0 : decide (x3_2 < (x6_2.length : Int)) = true := decide_eq_true c34
                              clear c34
                              obtain ⟨y131, hy131⟩ : ∃ y_ : List Int, y_ = (x6_2.set (x3_2 : Int).toNat 65533) := ⟨_, rfl⟩
                              replace H : (utf16_Encode.l1 k2 (wrap64 (x3_2 + 1)) y131 l0 (l0.length : Int) (wrap64 (x28_2 + 1))) = some r := by first | (rw [hy131]; with_reducible exact H) | (have H2_ := (Option.bind_some _ _).symm.trans H; rw [hy131]; with_reducible exact H2_) | (have H2_ := (Option.bind_some _ _).symm.trans H; with_reducible exact H2_) | with_reducible exact H | (rw [hy131]; exact H) | exact H
                              have Ny131 := Aside0.mk hy131
                              clear hy131
                              have H' := Aside0.mk H
                              clear H
                              have p124 : 0 ≤ (x28_2 : Int) := of_decide_eq_true (by first | (with_reducible assumption) | assumption)
                              have q124 : x28_2 < (l0.length : Int) := of_decide_eq_true (by first | (with_reducible assumption) | assumption)
                              obtain ⟨ad124, e124, hx124_0⟩ := Kd.at_int HR0.out x28_2 p124 q124
                              cases e124
                              replace hx124_0 := (HB.out.cell (World.block_lt_of_cell? w _ hx124_0)).trans hx124_0
                              replace p124 := eq_true p124
                              replace q124 := eq_true q124
                              go_wp2_with (first | ((with_reducible refine gate_callee (f := 27) rfl ?_); refine goesL_ (some 33) rfl rfl Tryd.func27 (by kernel_rfl) rfl #[.int .i32 (rd l0 x28_2)] rfl (by (try simp only [List.map_toArray, List.map_cons, List.map_nil]); first | done | rfl | (simp only [List.length_drop, List.length_take]; rfl)) ?_; (with_reducible refine (utf16_RuneLen.calls k2 (rd l0 x28_2) t125 _ A13.out).mono ?_); rintro e w' ⟨rfl, ⟨nd, rfl⟩⟩; refine ⟨_, rfl, ?_⟩; (try (rw [drewN_self wr]; generalize hq_ : World.drewN wr _ = wr; have n0_ : Aside0 (Kd.R (Kd.int .u16) 38 wr w.heap.size (fun _ => True) v119 x6_2) := ⟨by rw [← hq_]; exact (by (with_reducible repeat (first | apply Kd.R_alloc | apply Kd.R_drewN | apply Kd.R_drew)); exact HO_6.out)⟩; have n1_ : Aside0 (Below w.heap.size w wr) := ⟨by rw [← hq_]; exact (by repeat (first | (with_reducible first | exact HB.out | apply below_alloc | apply pw_below_drewN | apply below_drew1) | exact HB.out))⟩; clear HO_6 HB hq_; have HO_6 := n0_; have HB := n1_; clear n0_ n1_)); have p35 : 0 ≤ (x3_2 : Int) := of_decide_eq_true (by first | (with_reducible assumption) | assumption); have q35 : (x3_2 : Int) < ((x6_2.length : Int) : Int) := of_decide_eq_true (by first | (with_reducible assumption) | assumption); obtain ⟨go35, co35, eo35, gb35, gl35, cl35, HG35⟩ := Kd.R_form HO_6.out (by omega); (first | cases eo35 | (injection eo35 with ea_ en_ ec_; (first | subst ea_ | (injection ea_ with ea_; subst ea_)); subst ec_; clear en_)); have GB35 := Aside0.mk gb35; have GG35 := Aside0.mk HG35; clear gb35 gl35 HG35; obtain ⟨hx35_0, hf35_0⟩ := Kd.R_celln 0 HO_6.out (x3_2 : Int) p35 q35; replace p35 := eq_true p35; replace q35 := eq_true q35; obtain ⟨hy36_, hz36_⟩ := Kd.R_celln 0 HO_6.out (x3_2 : Int) (of_decide_eq_true (by first | (with_reducible assumption) | assumption)) (of_decide_eq_true (by first | (with_reducible assumption) | assumption)); have HP36 := Kd.R_putg HO_6.out (x3_2 : Int) 65533) | ((with_reducible refine gate_store (t := 38) (p := 36) rfl ?_); refine store_event (t := 38) (p := 36) (v := ?vo_w37) (w1 := (wr.setCell ⟨go35, (x3_2 : Int).toNat, none⟩ (.int .u16 65533))) ?hg ?ho ?hn ?hr ?_; (case ho => rfl); (case hg => rfl); (case hn => rfl); (case hr => first | (go_simp; done) | (go_simp; rfl)); intro w37 hw; have hg : wr.grownBy w37 (some go35) := (by rw [hw]; exact HP36.2); have hp_ : Kd.R (Kd.int .u16) 38 w37 w.heap.size (fun _ => True) (.slice (some ⟨go35, 0, none⟩) x6_2.length co35) y131 := (by rw [hw, Ny131.out]; exact HP36.1); clear HP36; have n0_ := Aside0.mk (hp_); have n1_ := Aside0.mk ((by rw [hw]; exact below_set (HB.out) GB35.out : Below w.heap.size w w37)); clear HO_6; clear HB; have HO_6 := n0_; have HB := n1_; clear n0_ n1_; clear hg hw hp_))
                              go_roundg k2
                              case measure => have := HK1.out; have := HK2.out; omega
                              case rel => exact ⟨(wrap64 (x3_2 + 1)), (y131), (wrap64 (x28_2 + 1)), (by first | rfl | (simp; done) | (simp [*]; done)), (by first | rfl | (simp; done) | (simp [*]; done)), H', ⟨by have := HK1.out; have := HK2.out; omega⟩, ⟨by (with_reducible repeat (first | apply Kd.R_alloc | apply Kd.R_drewN | apply Kd.R_drew)); exact HO_6.out⟩, ⟨by repeat (first | (with_reducible first | exact HB.out | apply below_alloc | apply pw_below_drewN | apply below_drew1) | exact HB.out)⟩⟩
                            · rw [if_neg c34] at H
                              exact absurd H (by simp)
                          · rw [if_neg c33] at H
                            exact absurd H (by simp)
                    · rw [if_neg c12] at H
                      exact absurd H (by simp)
                  · rw [if_neg c11] at H
                    exact absurd H (by simp)
                · rw [if_neg c10] at H
                  have c10b0 : decide (x28_2 < (l0.length : Int)) = false := decide_eq_false c10
                  clear c10
                  by_cases c38 : 0 ≤ x3_2
                  · rw [if_pos c38] at H
                    have c38b0 := eq_true c38
                    have c38b1 : decide (0 ≤ x3_2) = true := decide_eq_true c38
                    clear c38
                    by_cases c39 : x3_2 ≤ (x6_2.length : Int)
                    · rw [if_pos c39] at H
                      have c39b0 := eq_true c39
                      have c39b1 : decide (x3_2 ≤ (x6_2.length : Int)) = true := decide_eq_true c39
                      clear c39
                      obtain ⟨y121, hy121⟩ : ∃ y_ : List Int, y_ = (x6_2.take (x3_2 : Int).toNat) := ⟨_, rfl⟩
                      replace H : (some y121) = some r := by first | (rw [hy121]; with_reducible exact H) | (have H2_ := (Option.bind_some _ _).symm.trans H; rw [hy121]; with_reducible exact H2_) | (have H2_ := (Option.bind_some _ _).symm.trans H; with_reducible exact H2_) | with_reducible exact H | (rw [hy121]; exact H) | exact H
                      have Ny121 := Aside0.mk hy121
                      clear hy121
                      obtain rfl := Option.some.inj H
                      obtain ⟨Ao40, co40, eo40⟩ := Kd.R_slice HO_6.out
                      subst eo40
                      have q41 : (x3_2 : Int) ≤ ((x6_2.length : Int) : Int) := of_decide_eq_true (by first | (with_reducible assumption) | assumption)
                      obtain ⟨i041, hi041, _, hsz41, _⟩ := info_parts info38
                      have hcut41 := cut_to (P := Tryd.prog) 39 38 .i64 Tryd.underlying39 hi041 Ao40 x6_2.length co40 x3_2 (of_decide_eq_true (by first | (with_reducible assumption) | assumption)) q41 (Kd.R_reads' HO_6.out).2.1
                      have hr41 := Kd.R_take (m := (x3_2 : Int).toNat) HO_6.out (by omega)
                      have hy41 : y121.length = (x3_2 : Int).toNat := (by rw [Ny121.out, List.length_take]; omega)
                      rw [← Ny121.out] at hr41
                      rw [← hy41] at hr41 hcut41
                      clear hy41 hi041 hsz41 HO_6
                      have HO123 := Aside0.mk hr41
                      clear hr41
                      replace q41 := eq_true q41
                      go_wp2
                      go_ret
                      exact ⟨_, by first | rfl | (simp [errW_none, errW_some] <;> rfl) | (simp [*, errW_none, errW_some] <;> rfl), by (with_reducible repeat (first | apply Kd.R_alloc | apply Kd.R_drewN | apply Kd.R_drew)); exact HO123.out, by repeat (first | (with_reducible first | exact HB.out | apply below_alloc | apply pw_below_drewN | apply below_drew1) | exact HB.out)⟩
                    · rw [if_neg c39] at H
                      exact absurd H (by simp)
                  · rw [if_neg c38] at H
                    exact absurd H (by simp)
          · rw [if_neg c7] at H
            exact absurd H (by simp)
        · rw [if_neg c6] at H
          exact absurd H (by simp)

end Go.Proofs.YtllaepgbpmiglaaDoor.QFnEscape
