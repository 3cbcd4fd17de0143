-- Written by a program of this session out of the translation (a copy of the kit's print, turned). Not trusted: Lean checks it.
import Derived.Test.YtllaepgbpmiglaaGreatDoorQNumx0
namespace Go.Proofs.YtllaepgbpmiglaaGreatDoor.QNum
open Go.RowKit Go.Proofs.YtllaepgbpmiglaaGreatDoorW.PrintWords Go.Proofs.YtllaepgbpmiglaaGreatDoorW.PrintLast Go.Proofs.YtllaepgbpmiglaaGreatDoorW.PrintMore
attribute [local go_sem] max2_int min2_int max_two min_two max_three min_three max_four min_four   -- for this text's walks alone
set_option linter.unusedVariables false
set_option linter.unusedSimpArgs false

/-! ### utf8_DecodeRuneInString: function 32 -/
def utf8_DecodeRuneInString.f (a0 : ByteArray) : Option (Int × Int) := if a0.toList = ([] : List UInt8) then (none) else (if 0 < (a0.size : Int) then (if (bt a0 0) < 128 then (some (wrap32 (bt a0 0), 1)) else (none)) else (none))
set_option maxHeartbeats 8000000 in
set_option maxRecDepth 100000 in
theorem utf8_DecodeRuneInString.calls (a0 : ByteArray) (r1 : Int) (r2 : Int) (w : World) (h : utf8_DecodeRuneInString.f a0 = some (r1, r2)) :
    Calls Tryz.prog 32 #[.string a0] w fun e w' => e = .returned (.tuple #[.int .i32 r1, .int .i64 r2]) ∧ Drawn0 w w' := by
  have H : (if a0.toList = ([] : List UInt8) then (none) else (if 0 < (a0.size : Int) then (if (bt a0 0) < 128 then (some (wrap32 (bt a0 0), 1)) else (none)) else (none))) = some (r1, r2) := h
  clear h
  by_cases c2 : a0.toList = ([] : List UInt8)
  · rw [if_pos c2] at H
    exact absurd H (by simp)
  · rw [if_neg c2] at H
    have c2b0 : (a0.toList == ([] : List UInt8)) = false := beq_eq_false_iff_ne.mpr c2
    have c2b1 : (a0.toList != ([] : List UInt8)) = true := bne_iff_ne.mpr c2
    by_cases c3 : 0 < (a0.size : Int)
    · rw [if_pos c3] at H
      have c3b0 : decide (0 < (a0.size : Int)) = true := decide_eq_true c3
      have c3b1 : decide (0 < a0.size) = true := decide_eq_true (by omega)
      clear c3
      by_cases c5 : (bt a0 0) < 128
      · rw [if_pos c5] at H
        have c5b0 : decide ((bt a0 0) < 128) = true := decide_eq_true c5
        clear c5
        as_aux_lemma =>
          simp only [Option.some.injEq, Prod.mk.injEq] at H
          obtain ⟨rfl, rfl⟩ := H
          have p4 : 0 ≤ (0 : Int) := (by omega)
          have q4 : 0 < a0.size := (by have : (0 : Int) < (a0.size : Int) := of_decide_eq_true (by first | (with_reducible assumption) | assumption); omega)
          have hx4 : ∀ h : 0 < a0.size, ((a0[0]'h).toNat : Int) = bt a0 0 := bt_at a0 0
          clear p4
          have qi4 : (0 < (a0.size : Int)) = True := eq_true (of_decide_eq_true (by first | (with_reducible assumption) | assumption))
          replace q4 := eq_true q4
          have p6 : 0 ≤ (0 : Int) := (by omega)
          have q6 : 0 < a0.size := (by have : (0 : Int) < (a0.size : Int) := of_decide_eq_true (by first | (with_reducible assumption) | assumption); omega)
          have hx6 : ∀ h : 0 < a0.size, ((a0[0]'h).toNat : Int) = bt a0 0 := bt_at a0 0
          clear p6
          have qi6 : (0 < (a0.size : Int)) = True := eq_true (of_decide_eq_true (by first | (with_reducible assumption) | assumption))
          replace q6 := eq_true q6
          go_enter Tryz.func32, Tryz.ntmps32
          go_wp2
          go_ret2
          exact ⟨by first | rfl | (simp; done) | (simp [*]; done), by repeat (first | exact Drawn0.refl _ | apply Drawn0.step)⟩
      · rw [if_neg c5] at H
        exact absurd H (by simp)
    · rw [if_neg c3] at H
      exact absurd H (by simp)

/-! ### otto_zzTrimRight: function 23 -/
def otto_zzTrimRight.l0 : Nat → ByteArray → ByteArray → Option (ByteArray)
  | 0, _, _ => none
  | k + 1, x0, x1 => if x0.toList = ([] : List UInt8) then (some x0) else ((utf8_DecodeLastRuneInString.f x0).bind fun bt109 => ((otto_zzIn.f x1 bt109.1).bind fun t111 => (if t111 = true then (if 0 ≤ (wrap64 ((x0.size : Int) - bt109.2)) then (if (wrap64 ((x0.size : Int) - bt109.2)) ≤ (x0.size : Int) then (otto_zzTrimRight.l0 k (x0.extract 0 ((wrap64 ((x0.size : Int) - bt109.2)) : Int).toNat) x1) else (none)) else (none)) else (some x0))))
def otto_zzTrimRight.f (k : Nat) (a0 : ByteArray) (a1 : ByteArray) : Option (ByteArray) := otto_zzTrimRight.l0 k a0 a1
theorem otto_zzTrimRight.mono_l : ∀ k, (∀ y0 y1, LeO (otto_zzTrimRight.l0 k y0 y1) (otto_zzTrimRight.l0 (k + 1) y0 y1))
  | 0 => fun _ _ r h => by simp [otto_zzTrimRight.l0] at h
  | k + 1 => by
    have ih0 := otto_zzTrimRight.mono_l k
    · intro y0 y1
      unfold otto_zzTrimRight.l0
      repeat' first
      | (with_reducible exact ih0 _ _)
      | (with_reducible exact LeO.refl _)
      | (with_reducible exact LeO.none _)
      | (with_reducible refine LeO.ite ?_ ?_)
      | (with_reducible refine LeO.bind ?_ (fun _ => ?_))
      | exact ih0 _ _
      | exact LeO.none _
      | refine LeO.ite ?_ ?_
      | refine LeO.bind ?_ (fun _ => ?_)
theorem otto_zzTrimRight.mono : ∀ a0 a1 k, LeO (otto_zzTrimRight.f k a0 a1) (otto_zzTrimRight.f (k + 1) a0 a1) := by
  intro a0 a1 k
  have ih0 := otto_zzTrimRight.mono_l k
  unfold otto_zzTrimRight.f
  repeat' first
      | (with_reducible exact ih0 _ _)
      | (with_reducible exact LeO.refl _)
      | (with_reducible exact LeO.none _)
      | (with_reducible refine LeO.ite ?_ ?_)
      | (with_reducible refine LeO.bind ?_ (fun _ => ?_))
      | exact ih0 _ _
      | exact LeO.none _
      | refine LeO.ite ?_ ?_
      | refine LeO.bind ?_ (fun _ => ?_)
set_option maxHeartbeats 8000000 in
set_option maxRecDepth 100000 in
theorem otto_zzTrimRight.calls (k : Nat) (a0 : ByteArray) (a1 : ByteArray) (r : ByteArray) (w : World) (h : otto_zzTrimRight.f k a0 a1 = some r) :
    Calls Tryz.prog 23 #[.string a0, .string a1] w fun e w' => e = .returned (.string r) ∧ Below w.heap.size w w' := by
  have HB := Aside0.mk (Below.refl w.heap.size w)
  have H : (otto_zzTrimRight.l0 k a0 a1) = some r := h
  clear h
  have H' := Aside0.mk H
  clear H
  go_enter Tryz.func23, Tryz.ntmps23
  go_wp2
  go_loopg [0] k (fun kq v0 w' => ∃ (x0_1 : ByteArray), v0 = .string x0_1 ∧ Aside0 (otto_zzTrimRight.l0 kq x0_1 a1 = some r) ∧ Aside0 (kq ≤ k) ∧ Aside0 (Below w.heap.size w w'))
  case atStart => exact ⟨(a0), (by first | rfl | (simp; done) | (simp [*]; done)), H', ⟨Nat.le_refl _⟩, ⟨by repeat (first | (with_reducible first | exact HB.out | apply below_alloc | apply pw_below_drewN | apply below_drew1) | exact HB.out)⟩⟩
  case round =>
    clear H'
    try clear c2
    try clear p2
    obtain ⟨x0_1, rfl, HA, HK1, HB⟩ := hrel
    cases gk with
    | zero => exact absurd HA.out (by simp [otto_zzTrimRight.l0])
    | succ k1 =>
      have H := HA.out
      clear HA
      simp only [otto_zzTrimRight.l0] at H
      by_cases c3 : x0_1.toList = ([] : List UInt8)
      · rw [if_pos c3] at H
        have c3b0 : (x0_1.toList == ([] : List UInt8)) = true := beq_iff_eq.mpr c3
        have c3b1 : (x0_1.toList != ([] : List UInt8)) = false := bne_eq_false_iff_eq.mpr c3
        clear c3
        as_aux_lemma =>
          obtain rfl := Option.some.inj H
          go_wp2
          go_ret
          exact ⟨by first | rfl | (simp [errW_none, errW_some] <;> rfl) | (simp [*, errW_none, errW_some] <;> rfl), by repeat (first | (with_reducible first | exact HB.out | apply below_alloc | apply pw_below_drewN | apply below_drew1) | exact HB.out)⟩
      · rw [if_neg c3] at H
        have c3b0 : (x0_1.toList == ([] : List UInt8)) = false := beq_eq_false_iff_ne.mpr c3
        have c3b1 : (x0_1.toList != ([] : List UInt8)) = true := bne_iff_ne.mpr c3
        replace H := Option.bind_eq_some_iff.mp H
        obtain ⟨⟨t109, t110⟩, A40, H⟩ := H
        replace H : ((otto_zzIn.f a1 t109).bind fun t111 => (if t111 = true then (if 0 ≤ (wrap64 ((x0_1.size : Int) - t110)) then (if (wrap64 ((x0_1.size : Int) - t110)) ≤ (x0_1.size : Int) then (otto_zzTrimRight.l0 k1 (x0_1.extract 0 ((wrap64 ((x0_1.size : Int) - t110)) : Int).toNat) a1) else (none)) else (none)) else (some x0_1))) = some r := H
        have A4 := Aside0.mk A40
        clear A40
        replace H := Option.bind_eq_some_iff.mp H
        obtain ⟨t111, A50, H⟩ := H
        replace H : (if t111 = true then (if 0 ≤ (wrap64 ((x0_1.size : Int) - t110)) then (if (wrap64 ((x0_1.size : Int) - t110)) ≤ (x0_1.size : Int) then (otto_zzTrimRight.l0 k1 (x0_1.extract 0 ((wrap64 ((x0_1.size : Int) - t110)) : Int).toNat) a1) else (none)) else (none)) else (some x0_1)) = some r := H
        have A5 := Aside0.mk A50
        clear A50
        (try have e_A5 := Option.some.inj (A4.out.symm.trans A5.out))
        by_cases c6 : t111 = true
        · subst c6
          have H1 : (if 0 ≤ (wrap64 ((x0_1.size : Int) - t110)) then (if (wrap64 ((x0_1.size : Int) - t110)) ≤ (x0_1.size : Int) then (otto_zzTrimRight.l0 k1 (x0_1.extract 0 ((wrap64 ((x0_1.size : Int) - t110)) : Int).toNat) a1) else (none)) else (none)) = some r := by rw [if_pos rfl] at H; exact H
          clear H
          have H := H1
          clear H1
          obtain ⟨ji7, hji7⟩ : ∃ j_ : Int, (wrap64 ((x0_1.size : Int) - t110)) = j_ := ⟨_, rfl⟩
          replace H : (if 0 ≤ (ji7) then (if (ji7) ≤ (x0_1.size : Int) then (otto_zzTrimRight.l0 k1 (x0_1.extract 0 ((ji7) : Int).toNat) a1) else (none)) else (none)) = some r := by first | (rw [hji7] at H; exact H) | (simp only [hji7] at H ⊢; exact H)
          (try rw [hji7] at A4)
          (try rw [hji7] at A5)
          have hji7w : (IntKind.i64.wrap ((x0_1.size : Int) - t110)) = ji7 := (i64_w _).trans hji7
          by_cases c8 : 0 ≤ (ji7)
          · rw [if_pos c8] at H
            have c8b0 := eq_true c8
            have c8b1 : decide (0 ≤ (ji7)) = true := decide_eq_true c8
            clear c8
            by_cases c9 : (ji7) ≤ (x0_1.size : Int)
            · rw [if_pos c9] at H
              have c9b0 := eq_true c9
              have c9b1 : decide ((ji7) ≤ (x0_1.size : Int)) = true := decide_eq_true c9
              clear c9
              as_aux_lemma =>
                have H' := Aside0.mk H
                clear H
                go_wp2_with (first | ((with_reducible refine gate_callee (f := 30) rfl ?_); refine goesL_ (some 11) rfl rfl Tryz.func30 (by kernel_rfl) rfl #[.string x0_1] rfl (by (try simp only [List.map_toArray, List.map_cons, List.map_nil]); first | done | rfl | (simp only [List.length_drop, List.length_take]; rfl)) ?_; (with_reducible refine (utf8_DecodeLastRuneInString.calls x0_1 t109 t110 _ A4.out).mono ?_); rintro e w10 ⟨rfl, hb⟩; refine ⟨_, rfl, ?_⟩; have n0_ := Aside0.mk (below_step (by repeat (first | (with_reducible first | exact HB.out | apply below_alloc | apply pw_below_drewN | apply below_drew1) | exact HB.out)) hb); clear HB; have HB := n0_; clear n0_; (try clear hb); (try clear hb2); (try clear hk); (try clear hi)) | ((with_reducible refine gate_callee (f := 31) rfl ?_); refine goesL_ (some 16) rfl rfl Tryz.func31 (by kernel_rfl) rfl #[.string a1, .int .i32 t109] rfl (by (try simp only [List.map_toArray, List.map_cons, List.map_nil]); first | done | rfl | (simp only [List.length_drop, List.length_take]; rfl)) ?_; (with_reducible refine (otto_zzIn.calls a1 t109 true _ A5.out).mono ?_); rintro e w11 ⟨rfl, hb⟩; refine ⟨_, rfl, ?_⟩; have n0_ := Aside0.mk (below_step (by repeat (first | (with_reducible first | exact HB.out | apply below_alloc | apply pw_below_drewN | apply below_drew1) | exact HB.out)) hb); clear HB; have HB := n0_; clear n0_; (try clear hb); (try clear hb2); (try clear hk); (try clear hi)))
                go_roundg k1
                case measure => have := HK1.out; omega
                case rel => exact ⟨(x0_1.extract 0 ((ji7) : Int).toNat), (by first | rfl | (simp; done) | (simp only [← hji7] <;> (first | rfl | simp)) | (simp [*]; done)), H', ⟨by have := HK1.out; omega⟩, ⟨by repeat (first | (with_reducible first | exact HB.out | apply below_alloc | apply pw_below_drewN | apply below_drew1) | exact HB.out)⟩⟩
            · rw [if_neg c9] at H
              exact absurd H (by simp)
          · rw [if_neg c8] at H
            exact absurd H (by simp)
        · replace c6 := Bool.eq_false_iff.mpr c6
          subst c6
          have H1 : (some x0_1) = some r := by rw [if_neg (show ¬ (false = true) by decide)] at H; exact H
          clear H
          have H := H1
          clear H1
          as_aux_lemma =>
            obtain rfl := Option.some.inj H
            go_wp2_with (first | ((with_reducible refine gate_callee (f := 30) rfl ?_); refine goesL_ (some 11) rfl rfl Tryz.func30 (by kernel_rfl) rfl #[.string x0_1] rfl (by (try simp only [List.map_toArray, List.map_cons, List.map_nil]); first | done | rfl | (simp only [List.length_drop, List.length_take]; rfl)) ?_; (with_reducible refine (utf8_DecodeLastRuneInString.calls x0_1 t109 t110 _ A4.out).mono ?_); rintro e w12 ⟨rfl, hb⟩; refine ⟨_, rfl, ?_⟩; have n0_ := Aside0.mk (below_step (by repeat (first | (with_reducible first | exact HB.out | apply below_alloc | apply pw_below_drewN | apply below_drew1) | exact HB.out)) hb); clear HB; have HB := n0_; clear n0_; (try clear hb); (try clear hb2); (try clear hk); (try clear hi)) | ((with_reducible refine gate_callee (f := 31) rfl ?_); refine goesL_ (some 16) rfl rfl Tryz.func31 (by kernel_rfl) rfl #[.string a1, .int .i32 t109] rfl (by (try simp only [List.map_toArray, List.map_cons, List.map_nil]); first | done | rfl | (simp only [List.length_drop, List.length_take]; rfl)) ?_; (with_reducible refine (otto_zzIn.calls a1 t109 false _ A5.out).mono ?_); rintro e w13 ⟨rfl, hb⟩; refine ⟨_, rfl, ?_⟩; have n0_ := Aside0.mk (below_step (by repeat (first | (with_reducible first | exact HB.out | apply below_alloc | apply pw_below_drewN | apply below_drew1) | exact HB.out)) hb); clear HB; have HB := n0_; clear n0_; (try clear hb); (try clear hb2); (try clear hk); (try clear hi)))
            go_ret
            exact ⟨by first | rfl | (simp [errW_none, errW_some] <;> rfl) | (simp [*, errW_none, errW_some] <;> rfl), by repeat (first | (with_reducible first | exact HB.out | apply below_alloc | apply pw_below_drewN | apply below_drew1) | exact HB.out)⟩

/-! ### otto_zzTrimLeft: function 24 -/
def otto_zzTrimLeft.l0 : Nat → ByteArray → ByteArray → Option (ByteArray)
  | 0, _, _ => none
  | k + 1, x0, x1 => if x0.toList = ([] : List UInt8) then (some x0) else ((utf8_DecodeRuneInString.f x0).bind fun bt112 => ((otto_zzIn.f x1 bt112.1).bind fun t114 => (if t114 = true then (if 0 ≤ bt112.2 then (if bt112.2 ≤ (x0.size : Int) then (otto_zzTrimLeft.l0 k (x0.extract (bt112.2 : Int).toNat x0.size) x1) else (none)) else (none)) else (some x0))))
def otto_zzTrimLeft.f (k : Nat) (a0 : ByteArray) (a1 : ByteArray) : Option (ByteArray) := otto_zzTrimLeft.l0 k a0 a1
theorem otto_zzTrimLeft.mono_l : ∀ k, (∀ y0 y1, LeO (otto_zzTrimLeft.l0 k y0 y1) (otto_zzTrimLeft.l0 (k + 1) y0 y1))
  | 0 => fun _ _ r h => by simp [otto_zzTrimLeft.l0] at h
  | k + 1 => by
    have ih0 := otto_zzTrimLeft.mono_l k
    · intro y0 y1
      unfold otto_zzTrimLeft.l0
      repeat' first
      | (with_reducible exact ih0 _ _)
      | (with_reducible exact LeO.refl _)
      | (with_reducible exact LeO.none _)
      | (with_reducible refine LeO.ite ?_ ?_)
      | (with_reducible refine LeO.bind ?_ (fun _ => ?_))
      | exact ih0 _ _
      | exact LeO.none _
      | refine LeO.ite ?_ ?_
      | refine LeO.bind ?_ (fun _ => ?_)
theorem otto_zzTrimLeft.mono : ∀ a0 a1 k, LeO (otto_zzTrimLeft.f k a0 a1) (otto_zzTrimLeft.f (k + 1) a0 a1) := by
  intro a0 a1 k
  have ih0 := otto_zzTrimLeft.mono_l k
  unfold otto_zzTrimLeft.f
  repeat' first
      | (with_reducible exact ih0 _ _)
      | (with_reducible exact LeO.refl _)
      | (with_reducible exact LeO.none _)
      | (with_reducible refine LeO.ite ?_ ?_)
      | (with_reducible refine LeO.bind ?_ (fun _ => ?_))
      | exact ih0 _ _
      | exact LeO.none _
      | refine LeO.ite ?_ ?_
      | refine LeO.bind ?_ (fun _ => ?_)
set_option maxHeartbeats 8000000 in
set_option maxRecDepth 100000 in
theorem otto_zzTrimLeft.calls (k : Nat) (a0 : ByteArray) (a1 : ByteArray) (r : ByteArray) (w : World) (h : otto_zzTrimLeft.f k a0 a1 = some r) :
    Calls Tryz.prog 24 #[.string a0, .string a1] w fun e w' => e = .returned (.string r) ∧ Below w.heap.size w w' := by
  have HB := Aside0.mk (Below.refl w.heap.size w)
  have H : (otto_zzTrimLeft.l0 k a0 a1) = some r := h
  clear h
  have H' := Aside0.mk H
  clear H
  go_enter Tryz.func24, Tryz.ntmps24
  go_wp2
  go_loopg [0] k (fun kq v0 w' => ∃ (x0_1 : ByteArray), v0 = .string x0_1 ∧ Aside0 (otto_zzTrimLeft.l0 kq x0_1 a1 = some r) ∧ Aside0 (kq ≤ k) ∧ Aside0 (Below w.heap.size w w'))
  case atStart => exact ⟨(a0), (by first | rfl | (simp; done) | (simp [*]; done)), H', ⟨Nat.le_refl _⟩, ⟨by repeat (first | (with_reducible first | exact HB.out | apply below_alloc | apply pw_below_drewN | apply below_drew1) | exact HB.out)⟩⟩
  case round =>
    clear H'
    try clear c2
    try clear p2
    obtain ⟨x0_1, rfl, HA, HK1, HB⟩ := hrel
    cases gk with
    | zero => exact absurd HA.out (by simp [otto_zzTrimLeft.l0])
    | succ k1 =>
      have H := HA.out
      clear HA
      simp only [otto_zzTrimLeft.l0] at H
      by_cases c3 : x0_1.toList = ([] : List UInt8)
      · rw [if_pos c3] at H
        have c3b0 : (x0_1.toList == ([] : List UInt8)) = true := beq_iff_eq.mpr c3
        have c3b1 : (x0_1.toList != ([] : List UInt8)) = false := bne_eq_false_iff_eq.mpr c3
        clear c3
        as_aux_lemma =>
          obtain rfl := Option.some.inj H
          go_wp2
          go_ret
          exact ⟨by first | rfl | (simp [errW_none, errW_some] <;> rfl) | (simp [*, errW_none, errW_some] <;> rfl), by repeat (first | (with_reducible first | exact HB.out | apply below_alloc | apply pw_below_drewN | apply below_drew1) | exact HB.out)⟩
      · rw [if_neg c3] at H
        have c3b0 : (x0_1.toList == ([] : List UInt8)) = false := beq_eq_false_iff_ne.mpr c3
        have c3b1 : (x0_1.toList != ([] : List UInt8)) = true := bne_iff_ne.mpr c3
        replace H := Option.bind_eq_some_iff.mp H
        obtain ⟨⟨t112, t113⟩, A40, H⟩ := H
        replace H : ((otto_zzIn.f a1 t112).bind fun t114 => (if t114 = true then (if 0 ≤ t113 then (if t113 ≤ (x0_1.size : Int) then (otto_zzTrimLeft.l0 k1 (x0_1.extract (t113 : Int).toNat x0_1.size) a1) else (none)) else (none)) else (some x0_1))) = some r := H
        have A4 := Aside0.mk A40
        clear A40
        replace H := Option.bind_eq_some_iff.mp H
        obtain ⟨t114, A50, H⟩ := H
        replace H : (if t114 = true then (if 0 ≤ t113 then (if t113 ≤ (x0_1.size : Int) then (otto_zzTrimLeft.l0 k1 (x0_1.extract (t113 : Int).toNat x0_1.size) a1) else (none)) else (none)) else (some x0_1)) = some r := H
        have A5 := Aside0.mk A50
        clear A50
        (try have e_A5 := Option.some.inj (A4.out.symm.trans A5.out))
        by_cases c6 : t114 = true
        · subst c6
          have H1 : (if 0 ≤ t113 then (if t113 ≤ (x0_1.size : Int) then (otto_zzTrimLeft.l0 k1 (x0_1.extract (t113 : Int).toNat x0_1.size) a1) else (none)) else (none)) = some r := by rw [if_pos rfl] at H; exact H
          clear H
          have H := H1
          clear H1
          by_cases c7 : 0 ≤ t113
          · rw [if_pos c7] at H
            have c7b0 := eq_true c7
            have c7b1 : decide (0 ≤ t113) = true := decide_eq_true c7
            clear c7
            by_cases c8 : t113 ≤ (x0_1.size : Int)
            · rw [if_pos c8] at H
              have c8b0 := eq_true c8
              have c8b1 : decide (t113 ≤ (x0_1.size : Int)) = true := decide_eq_true c8
              clear c8
              as_aux_lemma =>
                have H' := Aside0.mk H
                clear H
                go_wp2_with (first | ((with_reducible refine gate_callee (f := 32) rfl ?_); refine goesL_ (some 11) rfl rfl Tryz.func32 (by kernel_rfl) rfl #[.string x0_1] rfl (by (try simp only [List.map_toArray, List.map_cons, List.map_nil]); first | done | rfl | (simp only [List.length_drop, List.length_take]; rfl)) ?_; (with_reducible refine (utf8_DecodeRuneInString.calls x0_1 t112 t113 _ A4.out).mono ?_); rintro e w' ⟨rfl, ⟨nd, rfl⟩⟩; refine ⟨_, rfl, ?_⟩) | ((with_reducible refine gate_callee (f := 31) rfl ?_); refine goesL_ (some 16) rfl rfl Tryz.func31 (by kernel_rfl) rfl #[.string a1, .int .i32 t112] rfl (by (try simp only [List.map_toArray, List.map_cons, List.map_nil]); first | done | rfl | (simp only [List.length_drop, List.length_take]; rfl)) ?_; (with_reducible refine (otto_zzIn.calls a1 t112 true _ A5.out).mono ?_); rintro e w9 ⟨rfl, hb⟩; refine ⟨_, rfl, ?_⟩; have n0_ := Aside0.mk (below_step (by repeat (first | (with_reducible first | exact HB.out | apply below_alloc | apply pw_below_drewN | apply below_drew1) | exact HB.out)) hb); clear HB; have HB := n0_; clear n0_; (try clear hb); (try clear hb2); (try clear hk); (try clear hi)))
                go_roundg k1
                case measure => have := HK1.out; omega
                case rel => exact ⟨(x0_1.extract (t113 : Int).toNat x0_1.size), (by first | rfl | (simp; done) | (simp [*]; done)), H', ⟨by have := HK1.out; omega⟩, ⟨by repeat (first | (with_reducible first | exact HB.out | apply below_alloc | apply pw_below_drewN | apply below_drew1) | exact HB.out)⟩⟩
            · rw [if_neg c8] at H
              exact absurd H (by simp)
          · rw [if_neg c7] at H
            exact absurd H (by simp)
        · replace c6 := Bool.eq_false_iff.mpr c6
          subst c6
          have H1 : (some x0_1) = some r := by rw [if_neg (show ¬ (false = true) by decide)] at H; exact H
          clear H
          have H := H1
          clear H1
          as_aux_lemma =>
            obtain rfl := Option.some.inj H
            go_wp2_with (first | ((with_reducible refine gate_callee (f := 32) rfl ?_); refine goesL_ (some 11) rfl rfl Tryz.func32 (by kernel_rfl) rfl #[.string x0_1] rfl (by (try simp only [List.map_toArray, List.map_cons, List.map_nil]); first | done | rfl | (simp only [List.length_drop, List.length_take]; rfl)) ?_; (with_reducible refine (utf8_DecodeRuneInString.calls x0_1 t112 t113 _ A4.out).mono ?_); rintro e w' ⟨rfl, ⟨nd, rfl⟩⟩; refine ⟨_, rfl, ?_⟩) | ((with_reducible refine gate_callee (f := 31) rfl ?_); refine goesL_ (some 16) rfl rfl Tryz.func31 (by kernel_rfl) rfl #[.string a1, .int .i32 t112] rfl (by (try simp only [List.map_toArray, List.map_cons, List.map_nil]); first | done | rfl | (simp only [List.length_drop, List.length_take]; rfl)) ?_; (with_reducible refine (otto_zzIn.calls a1 t112 false _ A5.out).mono ?_); rintro e w10 ⟨rfl, hb⟩; refine ⟨_, rfl, ?_⟩; have n0_ := Aside0.mk (below_step (by repeat (first | (with_reducible first | exact HB.out | apply below_alloc | apply pw_below_drewN | apply below_drew1) | exact HB.out)) hb); clear HB; have HB := n0_; clear n0_; (try clear hb); (try clear hb2); (try clear hk); (try clear hi)))
            go_ret
            exact ⟨by first | rfl | (simp [errW_none, errW_some] <;> rfl) | (simp [*, errW_none, errW_some] <;> rfl), by repeat (first | (with_reducible first | exact HB.out | apply below_alloc | apply pw_below_drewN | apply below_drew1) | exact HB.out)⟩

/-! ### otto_zzTrim: function 18 -/
def otto_zzTrim.f (k : Nat) (a0 : ByteArray) (a1 : ByteArray) : Option (ByteArray) := (otto_zzTrimLeft.f k a0 a1).bind fun t115 => ((otto_zzTrimRight.f k t115 a1).bind fun t116 => (some t116))
theorem otto_zzTrim.mono : ∀ a0 a1 k, LeO (otto_zzTrim.f k a0 a1) (otto_zzTrim.f (k + 1) a0 a1) := by
  intro a0 a1 k
  unfold otto_zzTrim.f
  repeat' first
      | (with_reducible exact otto_zzTrimLeft.mono _ _ _)
      | (with_reducible exact otto_zzTrimRight.mono _ _ _)
      | (with_reducible exact LeO.refl _)
      | (with_reducible exact LeO.none _)
      | (with_reducible refine LeO.ite ?_ ?_)
      | (with_reducible refine LeO.bind ?_ (fun _ => ?_))
      | exact otto_zzTrimLeft.mono _ _ _
      | exact otto_zzTrimRight.mono _ _ _
      | exact LeO.none _
      | refine LeO.ite ?_ ?_
      | refine LeO.bind ?_ (fun _ => ?_)
set_option maxHeartbeats 8000000 in
set_option maxRecDepth 100000 in
theorem otto_zzTrim.calls (k : Nat) (a0 : ByteArray) (a1 : ByteArray) (r : ByteArray) (w : World) (h : otto_zzTrim.f k a0 a1 = some r) :
    Calls Tryz.prog 18 #[.string a0, .string a1] w fun e w' => e = .returned (.string r) ∧ Below w.heap.size w w' := by
  have HB := Aside0.mk (Below.refl w.heap.size w)
  have H : ((otto_zzTrimLeft.f k a0 a1).bind fun t115 => ((otto_zzTrimRight.f k t115 a1).bind fun t116 => (some t116))) = some r := h
  clear h
  replace H := Option.bind_eq_some_iff.mp H
  obtain ⟨t115, A30, H⟩ := H
  replace H : ((otto_zzTrimRight.f k t115 a1).bind fun t116 => (some t116)) = some r := H
  have A3 := Aside0.mk A30
  clear A30
  replace H := Option.bind_eq_some_iff.mp H
  obtain ⟨t116, A40, H⟩ := H
  replace H : (some t116) = some r := H
  have A4 := Aside0.mk A40
  clear A40
  (try have e_A4 := Option.some.inj (A3.out.symm.trans A4.out))
  as_aux_lemma =>
    obtain rfl := Option.some.inj H
    go_enter Tryz.func18, Tryz.ntmps18
    go_wp2_with (first | ((with_reducible refine gate_callee (f := 24) rfl ?_); refine goesL_ (some 7) rfl rfl Tryz.func24 (by kernel_rfl) rfl #[.string a0, .string a1] rfl (by (try simp only [List.map_toArray, List.map_cons, List.map_nil]); first | done | rfl | (simp only [List.length_drop, List.length_take]; rfl)) ?_; (with_reducible refine (otto_zzTrimLeft.calls k a0 a1 t115 _ A3.out).mono ?_); rintro e w5 ⟨rfl, hb⟩; refine ⟨_, rfl, ?_⟩; have n0_ := Aside0.mk (below_step (by repeat (first | (with_reducible first | exact HB.out | apply below_alloc | apply pw_below_drewN | apply below_drew1) | exact HB.out)) hb); clear HB; have HB := n0_; clear n0_; (try clear hb); (try clear hb2); (try clear hk); (try clear hi)) | ((with_reducible refine gate_callee (f := 23) rfl ?_); refine goesL_ (some 9) rfl rfl Tryz.func23 (by kernel_rfl) rfl #[.string t115, .string a1] rfl (by (try simp only [List.map_toArray, List.map_cons, List.map_nil]); first | done | rfl | (simp only [List.length_drop, List.length_take]; rfl)) ?_; (with_reducible refine (otto_zzTrimRight.calls k t115 a1 t116 _ A4.out).mono ?_); rintro e w6 ⟨rfl, hb⟩; refine ⟨_, rfl, ?_⟩; have n0_ := Aside0.mk (below_step (by repeat (first | (with_reducible first | exact HB.out | apply below_alloc | apply pw_below_drewN | apply below_drew1) | exact HB.out)) hb); clear HB; have HB := n0_; clear n0_; (try clear hb); (try clear hb2); (try clear hk); (try clear hi)))
    go_ret
    exact ⟨by first | rfl | (simp [errW_none, errW_some] <;> rfl) | (simp [*, errW_none, errW_some] <;> rfl), by repeat (first | (with_reducible first | exact HB.out | apply below_alloc | apply pw_below_drewN | apply below_drew1) | exact HB.out)⟩

/-! ### otto_zzHas: function 19 -/
def otto_zzHas.l0 : Nat → ByteArray → Int → Int → Option (Bool)
  | 0, _, _, _ => none
  | k + 1, x0, x1, x5 => if x5 < (x0.size : Int) then (if 0 ≤ x5 then (if (bt x0 x5) = x1 then (some true) else (otto_zzHas.l0 k x0 x1 (wrap64 (x5 + 1)))) else (none)) else (some false)
def otto_zzHas.f (k : Nat) (a0 : ByteArray) (a1 : Int) : Option (Bool) := otto_zzHas.l0 k a0 a1 0
theorem otto_zzHas.mono_l : ∀ k, (∀ y0 y1 y2, LeO (otto_zzHas.l0 k y0 y1 y2) (otto_zzHas.l0 (k + 1) y0 y1 y2))
  | 0 => fun _ _ _ r h => by simp [otto_zzHas.l0] at h
  | k + 1 => by
    have ih0 := otto_zzHas.mono_l k
    · intro y0 y1 y2
      unfold otto_zzHas.l0
      repeat' first
      | (with_reducible exact ih0 _ _ _)
      | (with_reducible exact LeO.refl _)
      | (with_reducible exact LeO.none _)
      | (with_reducible refine LeO.ite ?_ ?_)
      | (with_reducible refine LeO.bind ?_ (fun _ => ?_))
      | exact ih0 _ _ _
      | exact LeO.none _
      | refine LeO.ite ?_ ?_
      | refine LeO.bind ?_ (fun _ => ?_)
theorem otto_zzHas.mono : ∀ a0 a1 k, LeO (otto_zzHas.f k a0 a1) (otto_zzHas.f (k + 1) a0 a1) := by
  intro a0 a1 k
  have ih0 := otto_zzHas.mono_l k
  unfold otto_zzHas.f
  repeat' first
      | (with_reducible exact ih0 _ _ _)
      | (with_reducible exact LeO.refl _)
      | (with_reducible exact LeO.none _)
      | (with_reducible refine LeO.ite ?_ ?_)
      | (with_reducible refine LeO.bind ?_ (fun _ => ?_))
      | exact ih0 _ _ _
      | exact LeO.none _
      | refine LeO.ite ?_ ?_
      | refine LeO.bind ?_ (fun _ => ?_)
set_option maxHeartbeats 8000000 in
set_option maxRecDepth 100000 in
theorem otto_zzHas.calls (k : Nat) (a0 : ByteArray) (a1 : Int) (r : Bool) (w : World) (h : otto_zzHas.f k a0 a1 = some r) :
    Calls Tryz.prog 19 #[.string a0, .int .u8 a1] w fun e w' => e = .returned (.bool r) ∧ Drawn0 w w' := by
  have H : (otto_zzHas.l0 k a0 a1 0) = some r := h
  clear h
  have H' := Aside0.mk H
  clear H
  go_enter Tryz.func19, Tryz.ntmps19
  go_wp2
  go_loopg [5] k (fun kq v5 w' => ∃ (x5_1 : Int), v5 = .int .i64 x5_1 ∧ Aside0 (otto_zzHas.l0 kq a0 a1 x5_1 = some r) ∧ Aside0 (kq ≤ k) ∧ Drawn0 w w')
  case atStart => exact ⟨(0), (by first | rfl | (simp; done) | (simp [*]; done)), H', ⟨Nat.le_refl _⟩, by repeat (first | exact Drawn0.refl _ | apply Drawn0.step)⟩
  case round =>
    clear H'
    try clear c1
    try clear p2
    obtain ⟨x5_1, rfl, HA, HK1, ⟨m1, rfl⟩⟩ := hrel
    cases gk with
    | zero => exact absurd HA.out (by simp [otto_zzHas.l0])
    | succ k1 =>
      have H := HA.out
      clear HA
      simp only [otto_zzHas.l0] at H
      by_cases c3 : x5_1 < (a0.size : Int)
      · rw [if_pos c3] at H
        have c3b0 : decide (x5_1 < (a0.size : Int)) = true := decide_eq_true c3
        clear c3
        by_cases c4 : 0 ≤ x5_1
        · rw [if_pos c4] at H
          have c4b0 : decide (0 ≤ x5_1) = true := decide_eq_true c4
          clear c4
          by_cases c6 : (bt a0 x5_1) = a1
          · rw [if_pos c6] at H
            have c6b0 : ((bt a0 x5_1) == a1) = true := beq_iff_eq.mpr c6
            have c6b1 : ((bt a0 x5_1) != a1) = false := bne_eq_false_iff_eq.mpr c6
            clear c6
            as_aux_lemma =>
              obtain rfl := Option.some.inj H
              have p5 : 0 ≤ (x5_1 : Int) := of_decide_eq_true (by first | (with_reducible assumption) | assumption)
              have q5 : x5_1 < (a0.size : Int) := of_decide_eq_true (by first | (with_reducible assumption) | assumption)
              have hx5 := bt_at a0 x5_1
              replace p5 := eq_true p5
              replace q5 := eq_true q5
              go_wp2
              go_ret
              exact ⟨by first | rfl | (simp; done) | (simp [*]; done), by repeat (first | exact Drawn0.refl _ | apply Drawn0.step)⟩
          · rw [if_neg c6] at H
            have c6b0 : ((bt a0 x5_1) == a1) = false := beq_eq_false_iff_ne.mpr c6
            have c6b1 : ((bt a0 x5_1) != a1) = true := bne_iff_ne.mpr c6
            as_aux_lemma =>
              have H' := Aside0.mk H
              clear H
              have p5 : 0 ≤ (x5_1 : Int) := of_decide_eq_true (by first | (with_reducible assumption) | assumption)
              have q5 : x5_1 < (a0.size : Int) := of_decide_eq_true (by first | (with_reducible assumption) | assumption)
              have hx5 := bt_at a0 x5_1
              replace p5 := eq_true p5
              replace q5 := eq_true q5
              go_wp2
              go_roundg k1
              case measure => have := HK1.out; omega
              case rel => exact ⟨(wrap64 (x5_1 + 1)), (by first | rfl | (simp; done) | (simp [*]; done)), H', ⟨by have := HK1.out; omega⟩, by repeat (first | exact Drawn0.refl _ | apply Drawn0.step)⟩
        · rw [if_neg c4] at H
          exact absurd H (by simp)
      · rw [if_neg c3] at H
        have c3b0 : decide (x5_1 < (a0.size : Int)) = false := decide_eq_false c3
        clear c3
        as_aux_lemma =>
          obtain rfl := Option.some.inj H
          go_wp2
          go_ret
          exact ⟨by first | rfl | (simp; done) | (simp [*]; done), by repeat (first | exact Drawn0.refl _ | apply Drawn0.step)⟩

/-! ### strconv_commonPrefixLenIgnoreCase: function 62 -/
mutual
def strconv_commonPrefixLenIgnoreCase.l0 : Nat → ByteArray → ByteArray → Int → Int → Option (Int)
  | 0, _, _, _, _ => none
  | k + 1, x0, x1, x5, x6 => if x6 < x5 then (if 0 ≤ x6 then (if x6 < (x0.size : Int) then (if 65 ≤ (bt x0 x6) then (strconv_commonPrefixLenIgnoreCase.j1 k x0 x1 x5 x6 (bt x0 x6) (decide ((bt x0 x6) ≤ 90))) else (strconv_commonPrefixLenIgnoreCase.j1 k x0 x1 x5 x6 (bt x0 x6) false)) else (none)) else (none)) else (some x5)
def strconv_commonPrefixLenIgnoreCase.j1 : Nat → ByteArray → ByteArray → Int → Int → Int → Bool → Option (Int)
  | 0, _, _, _, _, _, _ => none
  | k + 1, x0, x1, x5, x6, x7, x26 => if x26 = true then (if 0 ≤ x6 then (if x6 < (x1.size : Int) then (if ((x7 + 32) % 256) = (bt x1 x6) then (strconv_commonPrefixLenIgnoreCase.l0 k x0 x1 x5 (wrap64 (x6 + 1))) else (some x6)) else (none)) else (none)) else (if 0 ≤ x6 then (if x6 < (x1.size : Int) then (if x7 = (bt x1 x6) then (strconv_commonPrefixLenIgnoreCase.l0 k x0 x1 x5 (wrap64 (x6 + 1))) else (some x6)) else (none)) else (none))
end
def strconv_commonPrefixLenIgnoreCase.f (k : Nat) (a0 : ByteArray) (a1 : ByteArray) : Option (Int) := strconv_commonPrefixLenIgnoreCase.l0 k a0 a1 (mn (a1.size : Int) (a0.size : Int)) 0
theorem strconv_commonPrefixLenIgnoreCase.mono_l : ∀ k, (∀ y0 y1 y2 y3, LeO (strconv_commonPrefixLenIgnoreCase.l0 k y0 y1 y2 y3) (strconv_commonPrefixLenIgnoreCase.l0 (k + 1) y0 y1 y2 y3)) ∧ (∀ y0 y1 y2 y3 y4 y5, LeO (strconv_commonPrefixLenIgnoreCase.j1 k y0 y1 y2 y3 y4 y5) (strconv_commonPrefixLenIgnoreCase.j1 (k + 1) y0 y1 y2 y3 y4 y5))
  | 0 => ⟨fun _ _ _ _ r h => by simp [strconv_commonPrefixLenIgnoreCase.l0] at h, fun _ _ _ _ _ _ r h => by simp [strconv_commonPrefixLenIgnoreCase.j1] at h⟩
  | k + 1 => by
    obtain ⟨ih0, ih1⟩ := strconv_commonPrefixLenIgnoreCase.mono_l k
    refine ⟨?_, ?_⟩
    · intro y0 y1 y2 y3
      unfold strconv_commonPrefixLenIgnoreCase.l0
      repeat' first
      | (with_reducible exact ih0 _ _ _ _)
      | (with_reducible exact ih1 _ _ _ _ _ _)
      | (with_reducible exact LeO.refl _)
      | (with_reducible exact LeO.none _)
      | (with_reducible refine LeO.ite ?_ ?_)
      | (with_reducible refine LeO.bind ?_ (fun _ => ?_))
      | exact ih0 _ _ _ _
      | exact ih1 _ _ _ _ _ _
      | exact LeO.none _
      | refine LeO.ite ?_ ?_
      | refine LeO.bind ?_ (fun _ => ?_)
    · intro y0 y1 y2 y3 y4 y5
      unfold strconv_commonPrefixLenIgnoreCase.j1
      repeat' first
      | (with_reducible exact ih0 _ _ _ _)
      | (with_reducible exact ih1 _ _ _ _ _ _)
      | (with_reducible exact LeO.refl _)
      | (with_reducible exact LeO.none _)
      | (with_reducible refine LeO.ite ?_ ?_)
      | (with_reducible refine LeO.bind ?_ (fun _ => ?_))
      | exact ih0 _ _ _ _
      | exact ih1 _ _ _ _ _ _
      | exact LeO.none _
      | refine LeO.ite ?_ ?_
      | refine LeO.bind ?_ (fun _ => ?_)
theorem strconv_commonPrefixLenIgnoreCase.mono : ∀ a0 a1 k, LeO (strconv_commonPrefixLenIgnoreCase.f k a0 a1) (strconv_commonPrefixLenIgnoreCase.f (k + 1) a0 a1) := by
  intro a0 a1 k
  obtain ⟨ih0, ih1⟩ := strconv_commonPrefixLenIgnoreCase.mono_l k
  unfold strconv_commonPrefixLenIgnoreCase.f
  repeat' first
      | (with_reducible exact ih0 _ _ _ _)
      | (with_reducible exact ih1 _ _ _ _ _ _)
      | (with_reducible exact LeO.refl _)
      | (with_reducible exact LeO.none _)
      | (with_reducible refine LeO.ite ?_ ?_)
      | (with_reducible refine LeO.bind ?_ (fun _ => ?_))
      | exact ih0 _ _ _ _
      | exact ih1 _ _ _ _ _ _
      | exact LeO.none _
      | refine LeO.ite ?_ ?_
      | refine LeO.bind ?_ (fun _ => ?_)
set_option maxHeartbeats 8000000 in
set_option maxRecDepth 100000 in
theorem strconv_commonPrefixLenIgnoreCase.calls (k : Nat) (a0 : ByteArray) (a1 : ByteArray) (r : Int) (w : World) (h : strconv_commonPrefixLenIgnoreCase.f k a0 a1 = some r) :
    Calls Tryz.prog 62 #[.string a0, .string a1] w fun e w' => e = .returned (.int .i64 r) ∧ Below w.heap.size w w' := by
  have HB := Aside0.mk (Below.refl w.heap.size w)
  have H : (strconv_commonPrefixLenIgnoreCase.l0 k a0 a1 (mn (a1.size : Int) (a0.size : Int)) 0) = some r := h
  clear h
  obtain ⟨ji3, hji3⟩ : ∃ j_ : Int, (mn (a1.size : Int) (a0.size : Int)) = j_ := ⟨_, rfl⟩
  replace H : (strconv_commonPrefixLenIgnoreCase.l0 k a0 a1 ji3 0) = some r := by first | (rw [hji3] at H; exact H) | (simp only [hji3] at H ⊢; exact H)
  (try (have hji3l : 0 ≤ ji3 := by (rw [← hji3]; unfold mn; (repeat' split) <;> omega)))
  (try (have hji3m : 0 ≤ ji3 := by omega))
  have hji3_ : (if (a0.size : Int) < (a1.size : Int) then (a0.size : Int) else (a1.size : Int)) = ji3 := hji3
  have hji3_n := hji3_
  (try simp only [Int.ofNat_lt] at hji3_n)
  have H' := Aside0.mk H
  clear H
  go_enter Tryz.func62, Tryz.ntmps62
  go_wp2
  go_loopg [6] k (fun kq v6 w' => ∃ (x6_1 : Int), v6 = .int .i64 x6_1 ∧ Aside0 (strconv_commonPrefixLenIgnoreCase.l0 kq a0 a1 ji3 x6_1 = some r) ∧ Aside0 (kq ≤ k) ∧ Aside0 (Below w.heap.size w w'))
  case atStart => exact ⟨(0), (by first | rfl | (simp; done) | (simp [*]; done)), H', ⟨Nat.le_refl _⟩, ⟨by repeat (first | (with_reducible first | exact HB.out | apply below_alloc | apply pw_below_drewN | apply below_drew1) | exact HB.out)⟩⟩
  case round =>
    clear H'
    try clear p2
    obtain ⟨x6_1, rfl, HA, HK1, HB⟩ := hrel
    cases gk with
    | zero => exact absurd HA.out (by simp [strconv_commonPrefixLenIgnoreCase.l0])
    | succ k1 =>
      have H := HA.out
      clear HA
      simp only [strconv_commonPrefixLenIgnoreCase.l0] at H
      by_cases c4 : x6_1 < ji3
      · rw [if_pos c4] at H
        have c4b0 : decide (x6_1 < ji3) = true := decide_eq_true c4
        clear c4
        by_cases c5 : 0 ≤ x6_1
        · rw [if_pos c5] at H
          have c5b0 : decide (0 ≤ x6_1) = true := decide_eq_true c5
          clear c5
          by_cases c6 : x6_1 < (a0.size : Int)
          · rw [if_pos c6] at H
            have c6b0 : decide (x6_1 < (a0.size : Int)) = true := decide_eq_true c6
            clear c6
            have HC8 := Aside0.mk H
            clear H
            have p7 : 0 ≤ (x6_1 : Int) := of_decide_eq_true (by first | (with_reducible assumption) | assumption)
            have q7 : x6_1 < (a0.size : Int) := of_decide_eq_true (by first | (with_reducible assumption) | assumption)
            have hx7 := bt_at a0 x6_1
            replace p7 := eq_true p7
            replace q7 := eq_true q7
            go_upto_region 6 with (fail)
            go_cut [26] (fun v26 wc => ∃ (kq : Nat) (x26_7 : Bool), v26 = .bool x26_7 ∧ Aside0 (strconv_commonPrefixLenIgnoreCase.j1 kq a0 a1 ji3 x6_1 (bt a0 x6_1) x26_7 = some r) ∧ Aside0 (kq ≤ k1) ∧ Aside0 (Below w.heap.size w wc))
            case first =>
              have H := HC8.out
              clear HC8
              by_cases c9 : 65 ≤ (bt a0 x6_1)
              · rw [if_pos c9] at H
                have c9b0 : decide (65 ≤ (bt a0 x6_1)) = true := decide_eq_true c9
                clear c9
                (first | rw [c9b0] | (simp only [i64_w, i32_w]; rw [c9b0]) | skip)
                as_aux_lemma =>
                  have H' := Aside0.mk H
                  clear H
                  go_wp2
                  go_meet
                  case rel => exact ⟨_, (decide ((bt a0 x6_1) ≤ 90)), (by first | rfl | (simp; done) | (simp [*]; done)), H', ⟨by have := HK1.out; first | omega | exact Nat.le_refl _⟩, ⟨by repeat (first | (with_reducible first | exact HB.out | apply below_alloc | apply pw_below_drewN | apply below_drew1) | exact HB.out)⟩⟩
              · rw [if_neg c9] at H
                have c9b0 : decide (65 ≤ (bt a0 x6_1)) = false := decide_eq_false c9
                clear c9
                (first | rw [c9b0] | (simp only [i64_w, i32_w]; rw [c9b0]) | skip)
                as_aux_lemma =>
                  have H' := Aside0.mk H
                  clear H
                  go_wp2
                  go_meet
                  case rel => exact ⟨_, (false), (by first | rfl | (simp; done) | (simp [*]; done)), H', ⟨by have := HK1.out; first | omega | exact Nat.le_refl _⟩, ⟨by repeat (first | (with_reducible first | exact HB.out | apply below_alloc | apply pw_below_drewN | apply below_drew1) | exact HB.out)⟩⟩
            case rest =>
              clear HC8
              try clear p2
              try clear c4
              try clear c4b0
              try clear c5
              try clear c5b0
              try clear c6
              try clear c6b0
              try clear p7
              try clear q7
              try clear hx7
              try clear c9
              try clear c9b0
              try clear p2
              try clear p7
              try clear q7
              obtain ⟨kq, x26_7, rfl, HA, HJ7, HB⟩ := hcut
              cases kq with
              | zero => exact absurd HA.out (by simp [strconv_commonPrefixLenIgnoreCase.j1])
              | succ kj7 =>
                have H := HA.out
                clear HA
                simp only [strconv_commonPrefixLenIgnoreCase.j1] at H
                by_cases c10 : x26_7 = true
                · subst c10
                  have H1 : (if 0 ≤ x6_1 then (if x6_1 < (a1.size : Int) then (if (((bt a0 x6_1) + 32) % 256) = (bt a1 x6_1) then (strconv_commonPrefixLenIgnoreCase.l0 kj7 a0 a1 ji3 (wrap64 (x6_1 + 1))) else (some x6_1)) else (none)) else (none)) = some r := by rw [if_pos rfl] at H; exact H
                  clear H
                  have H := H1
                  clear H1
                  by_cases c11 : 0 ≤ x6_1
                  · rw [if_pos c11] at H
                    have c11b0 : decide (0 ≤ x6_1) = true := decide_eq_true c11
                    clear c11
                    by_cases c12 : x6_1 < (a1.size : Int)
                    · rw [if_pos c12] at H
                      have c12b0 : decide (x6_1 < (a1.size : Int)) = true := decide_eq_true c12
                      clear c12
                      by_cases c14 : (((bt a0 x6_1) + 32) % 256) = (bt a1 x6_1)
                      · rw [if_pos c14] at H
                        have c14b0 : ((((bt a0 x6_1) + 32) % 256) == (bt a1 x6_1)) = true := beq_iff_eq.mpr c14
                        have c14b1 : ((((bt a0 x6_1) + 32) % 256) != (bt a1 x6_1)) = false := bne_eq_false_iff_eq.mpr c14
                        clear c14
                        as_aux_lemma =>
                          have H' := Aside0.mk H
                          clear H
                          have p13 : 0 ≤ (x6_1 : Int) := of_decide_eq_true (by first | (with_reducible assumption) | assumption)
                          have q13 : x6_1 < (a1.size : Int) := of_decide_eq_true (by first | (with_reducible assumption) | assumption)
                          have hx13 := bt_at a1 x6_1
                          replace p13 := eq_true p13
                          replace q13 := eq_true q13
                          go_wp2
                          go_roundg kj7
                          case measure => have := HK1.out; have := HJ7.out; omega
                          case rel => exact ⟨(wrap64 (x6_1 + 1)), (by first | rfl | (simp; done) | (simp [*]; done)), H', ⟨by have := HK1.out; have := HJ7.out; omega⟩, ⟨by repeat (first | (with_reducible first | exact HB.out | apply below_alloc | apply pw_below_drewN | apply below_drew1) | exact HB.out)⟩⟩
                      · rw [if_neg c14] at H
                        have c14b0 : ((((bt a0 x6_1) + 32) % 256) == (bt a1 x6_1)) = false := beq_eq_false_iff_ne.mpr c14
                        have c14b1 : ((((bt a0 x6_1) + 32) % 256) != (bt a1 x6_1)) = true := bne_iff_ne.mpr c14
                        as_aux_lemma =>
                          obtain rfl := Option.some.inj H
                          have p13 : 0 ≤ (x6_1 : Int) := of_decide_eq_true (by first | (with_reducible assumption) | assumption)
                          have q13 : x6_1 < (a1.size : Int) := of_decide_eq_true (by first | (with_reducible assumption) | assumption)
                          have hx13 := bt_at a1 x6_1
                          replace p13 := eq_true p13
                          replace q13 := eq_true q13
                          go_wp2
                          go_ret
                          exact ⟨by first | rfl | (simp [errW_none, errW_some] <;> rfl) | (simp only [← hji3]; first | rfl | (simp [errW_none, errW_some] <;> rfl)) | (simp [*, errW_none, errW_some] <;> rfl), by repeat (first | (with_reducible first | exact HB.out | apply below_alloc | apply pw_below_drewN | apply below_drew1) | exact HB.out)⟩
                    · rw [if_neg c12] at H
                      exact absurd H (by simp)
                  · rw [if_neg c11] at H
                    exact absurd H (by simp)
                · replace c10 := Bool.eq_false_iff.mpr c10
                  subst c10
                  have H1 : (if 0 ≤ x6_1 then (if x6_1 < (a1.size : Int) then (if (bt a0 x6_1) = (bt a1 x6_1) then (strconv_commonPrefixLenIgnoreCase.l0 kj7 a0 a1 ji3 (wrap64 (x6_1 + 1))) else (some x6_1)) else (none)) else (none)) = some r := by rw [if_neg (show ¬ (false = true) by decide)] at H; exact H
                  clear H
                  have H := H1
                  clear H1
                  by_cases c15 : 0 ≤ x6_1
                  · rw [if_pos c15] at H
                    have c15b0 : decide (0 ≤ x6_1) = true := decide_eq_true c15
                    clear c15
                    by_cases c16 : x6_1 < (a1.size : Int)
                    · rw [if_pos c16] at H
                      have c16b0 : decide (x6_1 < (a1.size : Int)) = true := decide_eq_true c16
                      clear c16
                      by_cases c18 : (bt a0 x6_1) = (bt a1 x6_1)
                      · rw [if_pos c18] at H
                        have c18b0 : ((bt a0 x6_1) == (bt a1 x6_1)) = true := beq_iff_eq.mpr c18
                        have c18b1 : ((bt a0 x6_1) != (bt a1 x6_1)) = false := bne_eq_false_iff_eq.mpr c18
                        clear c18
                        as_aux_lemma =>
                          have H' := Aside0.mk H
                          clear H
                          have p17 : 0 ≤ (x6_1 : Int) := of_decide_eq_true (by first | (with_reducible assumption) | assumption)
                          have q17 : x6_1 < (a1.size : Int) := of_decide_eq_true (by first | (with_reducible assumption) | assumption)
                          have hx17 := bt_at a1 x6_1
                          replace p17 := eq_true p17
                          replace q17 := eq_true q17
                          go_wp2
                          go_roundg kj7
                          case measure => have := HK1.out; have := HJ7.out; omega
                          case rel => exact ⟨(wrap64 (x6_1 + 1)), (by first | rfl | (simp; done) | (simp [*]; done)), H', ⟨by have := HK1.out; have := HJ7.out; omega⟩, ⟨by repeat (first | (with_reducible first | exact HB.out | apply below_alloc | apply pw_below_drewN | apply below_drew1) | exact HB.out)⟩⟩
                      · rw [if_neg c18] at H
                        have c18b0 : ((bt a0 x6_1) == (bt a1 x6_1)) = false := beq_eq_false_iff_ne.mpr c18
                        have c18b1 : ((bt a0 x6_1) != (bt a1 x6_1)) = true := bne_iff_ne.mpr c18
                        as_aux_lemma =>
                          obtain rfl := Option.some.inj H
                          have p17 : 0 ≤ (x6_1 : Int) := of_decide_eq_true (by first | (with_reducible assumption) | assumption)
                          have q17 : x6_1 < (a1.size : Int) := of_decide_eq_true (by first | (with_reducible assumption) | assumption)
                          have hx17 := bt_at a1 x6_1
                          replace p17 := eq_true p17
                          replace q17 := eq_true q17
                          go_wp2
                          go_ret
                          exact ⟨by first | rfl | (simp [errW_none, errW_some] <;> rfl) | (simp only [← hji3]; first | rfl | (simp [errW_none, errW_some] <;> rfl)) | (simp [*, errW_none, errW_some] <;> rfl), by repeat (first | (with_reducible first | exact HB.out | apply below_alloc | apply pw_below_drewN | apply below_drew1) | exact HB.out)⟩
                    · rw [if_neg c16] at H
                      exact absurd H (by simp)
                  · rw [if_neg c15] at H
                    exact absurd H (by simp)
          · rw [if_neg c6] at H
            exact absurd H (by simp)
        · rw [if_neg c5] at H
          exact absurd H (by simp)
      · rw [if_neg c4] at H
        have c4b0 : decide (x6_1 < ji3) = false := decide_eq_false c4
        clear c4
        as_aux_lemma =>
          obtain rfl := Option.some.inj H
          go_wp2
          go_ret
          exact ⟨by first | rfl | (simp [errW_none, errW_some] <;> rfl) | (simp only [← hji3]; first | rfl | (simp [errW_none, errW_some] <;> rfl)) | (simp [*, errW_none, errW_some] <;> rfl), by repeat (first | (with_reducible first | exact HB.out | apply below_alloc | apply pw_below_drewN | apply below_drew1) | exact HB.out)⟩

/-! ### strconv_inf: function 63 -/
def strconv_inf.f (a0 : Int) : Option (Nat) := if a0 ≥ 0 then (some 9218868437227405312) else (some 18442240474082181120)
set_option maxHeartbeats 8000000 in
set_option maxRecDepth 100000 in
theorem strconv_inf.calls (a0 : Int) (r : Nat) (w : World) (h : strconv_inf.f a0 = some r) :
    Calls Tryz.prog 63 #[.int .i64 a0] w fun e w' => e = .returned (.float .f64 r) ∧ Drawn0 w w' := by
  have hext58 := ext58
  have H : (if a0 ≥ 0 then (some 9218868437227405312) else (some 18442240474082181120)) = some r := h
  clear h
  by_cases c2 : a0 ≥ 0
  · rw [if_pos c2] at H
    have c2b0 : decide (0 ≤ a0) = true := decide_eq_true c2
    clear c2
    as_aux_lemma =>
      obtain rfl := Option.some.inj H
      go_enter Tryz.func63, Tryz.ntmps63
      go_wp2
      go_ret
      exact ⟨by first | rfl | (simp; done) | (simp [*]; done), by repeat (first | exact Drawn0.refl _ | apply Drawn0.step)⟩
  · rw [if_neg c2] at H
    have c2b0 : decide (0 ≤ a0) = false := decide_eq_false c2
    clear c2
    as_aux_lemma =>
      obtain rfl := Option.some.inj H
      go_enter Tryz.func63, Tryz.ntmps63
      go_wp2
      go_ret
      exact ⟨by first | rfl | (simp; done) | (simp [*]; done), by repeat (first | exact Drawn0.refl _ | apply Drawn0.step)⟩

/-! ### strconv_nan: function 64 -/
def strconv_nan.f  : Option (Nat) := some 9221120237041090561
set_option maxHeartbeats 8000000 in
set_option maxRecDepth 100000 in
theorem strconv_nan.calls  (r : Nat) (w : World) (h : strconv_nan.f  = some r) :
    Calls Tryz.prog 64 #[] w fun e w' => e = .returned (.float .f64 r) ∧ Drawn0 w w' := by
  have hext58 := ext58
  have H : (some 9221120237041090561) = some r := h
  clear h
  as_aux_lemma =>
    obtain rfl := Option.some.inj H
    go_enter Tryz.func64, Tryz.ntmps64
    go_wp2
    go_ret
    exact ⟨by first | rfl | (simp; done) | (simp [*]; done), by repeat (first | exact Drawn0.refl _ | apply Drawn0.step)⟩

end Go.Proofs.YtllaepgbpmiglaaGreatDoor.QNum
