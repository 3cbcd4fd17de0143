-- Written by a program of this session out of the translation (a copy of the kit's print, turned). Not trusted: Lean checks it.
import Derived.Test.YtllaepgbpmiglaaDoorQFnEscapex0
import Derived.Test.YtllaepgbpmiglaaDoorQFnEscapex1
import Derived.Test.YtllaepgbpmiglaaDoorQFnEscapex2
import Derived.Test.YtllaepgbpmiglaaDoorQFnEscapex5
import Derived.Test.YtllaepgbpmiglaaDoorQFnEscapex6
import Derived.Test.YtllaepgbpmiglaaDoorQFnEscapex8
namespace Go.Proofs.YtllaepgbpmiglaaDoor.QFnEscape
open Go.RowKit Go.Proofs.YtllaepgbpmiglaaDoorW.PrintWords Go.Proofs.YtllaepgbpmiglaaDoorW.PrintLast Go.Proofs.YtllaepgbpmiglaaDoorW.PrintMore
attribute [local go_sem] max2_int min2_int max_two min_two max_three min_three max_four min_four   -- for this text's walks alone
set_option linter.unusedVariables false
set_option linter.unusedSimpArgs false

/-! ### laws_FnEscape: function 3 -/
def laws_FnEscape.j0 : Nat → ByteArray → Bool → Option (Bool)
  | 0, _, _ => none
  | k + 1, x0, x19 => if x19 = true then (some true) else ((spec_Unescape.f k x0).bind fun bt258 => ((impl_Escape.f k x0).bind fun t260 => ((spec_Escape.f k x0).bind fun t261 => (if t260.toList = t261.toList then (if bt258.2 = true then ((impl_Unescape.f k x0).bind fun t262 => (if t262.toList = bt258.1.toList then ((impl_Escape.f k x0).bind fun t263 => ((impl_Unescape.f k t263).bind fun t264 => (if t264.toList = x0.toList then ((impl_Escape.f k (⟨#[32]⟩ : ByteArray)).bind fun t265 => (some (t265.toList == ([37, 50, 48] : List UInt8)))) else (some false)))) else (some false))) else ((impl_Escape.f k x0).bind fun t266 => ((impl_Unescape.f k t266).bind fun t267 => (if t267.toList = x0.toList then ((impl_Escape.f k (⟨#[32]⟩ : ByteArray)).bind fun t268 => (some (t268.toList == ([37, 50, 48] : List UInt8)))) else (some false))))) else (some false)))))
def laws_FnEscape.f (k : Nat) (a0 : ByteArray) : Option (Bool) := if (a0.size : Int) > 2147483647 then (some true) else (if (a0.size : Int) > 5000 then (laws_FnEscape.j0 k a0 true) else ((spec_ASCII.f k a0).bind fun t256 => (if t256 = true then ((spec_Holds.f k a0 (⟨#[64]⟩ : ByteArray)).bind fun t257 => (laws_FnEscape.j0 k a0 t257)) else (laws_FnEscape.j0 k a0 true))))
theorem laws_FnEscape.mono_l : ∀ k, (∀ y0 y1, LeO (laws_FnEscape.j0 k y0 y1) (laws_FnEscape.j0 (k + 1) y0 y1))
  | 0 => fun _ _ r h => by simp [laws_FnEscape.j0] at h
  | k + 1 => by
    have ih0 := laws_FnEscape.mono_l k
    · intro y0 y1
      unfold laws_FnEscape.j0
      repeat' first
      | (with_reducible exact ih0 _ _)
      | (with_reducible exact impl_Escape.mono _ _)
      | (with_reducible exact impl_Unescape.mono _ _)
      | (with_reducible exact spec_ASCII.mono _ _)
      | (with_reducible exact spec_Escape.mono _ _)
      | (with_reducible exact spec_Holds.mono _ _ _)
      | (with_reducible exact spec_Unescape.mono _ _)
      | (with_reducible exact LeO.refl _)
      | (with_reducible exact LeO.none _)
      | (with_reducible refine LeO.ite ?_ ?_)
      | (with_reducible refine LeO.bind ?_ (fun _ => ?_))
      | exact ih0 _ _
      | exact impl_Escape.mono _ _
      | exact impl_Unescape.mono _ _
      | exact spec_ASCII.mono _ _
      | exact spec_Escape.mono _ _
      | exact spec_Holds.mono _ _ _
      | exact spec_Unescape.mono _ _
      | exact LeO.none _
      | refine LeO.ite ?_ ?_
      | refine LeO.bind ?_ (fun _ => ?_)
theorem laws_FnEscape.mono : ∀ a0 k, LeO (laws_FnEscape.f k a0) (laws_FnEscape.f (k + 1) a0) := by
  intro a0 k
  have ih0 := laws_FnEscape.mono_l k
  unfold laws_FnEscape.f
  repeat' first
      | (with_reducible exact ih0 _ _)
      | (with_reducible exact impl_Escape.mono _ _)
      | (with_reducible exact impl_Unescape.mono _ _)
      | (with_reducible exact spec_ASCII.mono _ _)
      | (with_reducible exact spec_Escape.mono _ _)
      | (with_reducible exact spec_Holds.mono _ _ _)
      | (with_reducible exact spec_Unescape.mono _ _)
      | (with_reducible exact LeO.refl _)
      | (with_reducible exact LeO.none _)
      | (with_reducible refine LeO.ite ?_ ?_)
      | (with_reducible refine LeO.bind ?_ (fun _ => ?_))
      | exact ih0 _ _
      | exact impl_Escape.mono _ _
      | exact impl_Unescape.mono _ _
      | exact spec_ASCII.mono _ _
      | exact spec_Escape.mono _ _
      | exact spec_Holds.mono _ _ _
      | exact spec_Unescape.mono _ _
      | exact LeO.none _
      | refine LeO.ite ?_ ?_
      | refine LeO.bind ?_ (fun _ => ?_)
set_option maxHeartbeats 8000000 in
set_option maxRecDepth 100000 in
theorem laws_FnEscape.calls (k : Nat) (a0 : ByteArray) (r : Bool) (w : World) (h : laws_FnEscape.f k a0 = some r) :
    Calls Tryd.prog 3 #[.string a0] w fun e w' => e = .returned (.bool r) ∧ Below w.heap.size w w' := by
  have HB := Aside0.mk (Below.refl w.heap.size w)
  have H : (if (a0.size : Int) > 2147483647 then (some true) else (if (a0.size : Int) > 5000 then (laws_FnEscape.j0 k a0 true) else ((spec_ASCII.f k a0).bind fun t256 => (if t256 = true then ((spec_Holds.f k a0 (⟨#[64]⟩ : ByteArray)).bind fun t257 => (laws_FnEscape.j0 k a0 t257)) else (laws_FnEscape.j0 k a0 true))))) = some r := h
  clear h
  by_cases c2 : (a0.size : Int) > 2147483647
  · rw [if_pos c2] at H
    have c2b0 : decide (2147483647 < (a0.size : Int)) = true := decide_eq_true c2
    have c2b1 : decide (2147483647 < a0.size) = true := decide_eq_true (by omega)
    clear c2
    obtain rfl := Option.some.inj H
    go_enter Tryd.func3, Tryd.ntmps3
    go_wp2
    go_ret
    exact ⟨by first | rfl | (simp [errW_none, errW_some] <;> rfl) | (simp [*, errW_none, errW_some] <;> rfl), by repeat (first | (with_reducible first | exact HB.out | apply below_alloc | apply pw_below_drewN | apply below_drew1) | exact HB.out)⟩
  · rw [if_neg c2] at H
    have c2b0 : decide (2147483647 < (a0.size : Int)) = false := decide_eq_false c2
    have c2b1 : decide (2147483647 < a0.size) = false := decide_eq_false (by omega)
    clear c2
    have HC3 := Aside0.mk H
    clear H
    go_enter Tryd.func3, Tryd.ntmps3
    go_upto_region 3 with (fail)
    go_cut [19] (fun v19 wc => ∃ (kq : Nat) (x19_2 : Bool), v19 = .bool x19_2 ∧ Aside0 (laws_FnEscape.j0 kq a0 x19_2 = some r) ∧ Aside0 (kq ≤ k) ∧ Aside0 (Below w.heap.size w wc))
    case first =>
      have H := HC3.out
      clear HC3
      by_cases c4 : (a0.size : Int) > 5000
      · rw [if_pos c4] at H
        have c4b0 : decide (5000 < (a0.size : Int)) = true := decide_eq_true c4
        have c4b1 : decide (5000 < a0.size) = true := decide_eq_true (by omega)
        clear c4
        (first | rw [c4b0] | (simp only [i64_w, i32_w]; rw [c4b0]) | skip)
        have H' := Aside0.mk H
        clear H
        go_wp2
        go_meet
        case rel => exact ⟨_, (true), (by first | rfl | (simp; done) | (simp [*]; done)), H', ⟨by first | omega | exact Nat.le_refl _⟩, ⟨by repeat (first | (with_reducible first | exact HB.out | apply below_alloc | apply pw_below_drewN | apply below_drew1) | exact HB.out)⟩⟩
      · rw [if_neg c4] at H
        have c4b0 : decide (5000 < (a0.size : Int)) = false := decide_eq_false c4
        have c4b1 : decide (5000 < a0.size) = false := decide_eq_false (by omega)
        clear c4
        (first | rw [c4b0] | (simp only [i64_w, i32_w]; rw [c4b0]) | skip)
        replace H := Option.bind_eq_some_iff.mp H
        obtain ⟨t256, A50, H⟩ := H
        replace H : (if t256 = true then ((spec_Holds.f k a0 (⟨#[64]⟩ : ByteArray)).bind fun t257 => (laws_FnEscape.j0 k a0 t257)) else (laws_FnEscape.j0 k a0 true)) = some r := H
        have A5 := Aside0.mk A50
        clear A50
        by_cases c6 : t256 = true
        · subst c6
          have H1 : ((spec_Holds.f k a0 (⟨#[64]⟩ : ByteArray)).bind fun t257 => (laws_FnEscape.j0 k a0 t257)) = some r := by rw [if_pos rfl] at H; exact H
          clear H
          have H := H1
          clear H1
          replace H := Option.bind_eq_some_iff.mp H
          obtain ⟨t257, A70, H⟩ := H
          replace H : (laws_FnEscape.j0 k a0 t257) = some r := H
          have A7 := Aside0.mk A70
          clear A70
          have H' := Aside0.mk H
          clear H
          go_wp2_with (first | (go_at_call 4; (with_reducible refine (spec_ASCII.calls k a0 true _ A5.out).mono ?_); rintro e w' ⟨rfl, ⟨nd, rfl⟩⟩) | (go_at_call 5; (with_reducible refine (spec_Holds.calls k a0 (⟨#[64]⟩ : ByteArray) t257 _ A7.out).mono ?_); rintro e w' ⟨rfl, ⟨nd, rfl⟩⟩))
          go_meet
          case rel => exact ⟨_, (t257), (by first | rfl | (simp; done) | (simp [*]; done)), H', ⟨by first | omega | exact Nat.le_refl _⟩, ⟨by repeat (first | (with_reducible first | exact HB.out | apply below_alloc | apply pw_below_drewN | apply below_drew1) | exact HB.out)⟩⟩
        · replace c6 := Bool.eq_false_iff.mpr c6
          subst c6
          have H1 : (laws_FnEscape.j0 k a0 true) = some r := by rw [if_neg (show ¬ (false = true) by decide)] at H; exact H
          clear H
          have H := H1
          clear H1
          have H' := Aside0.mk H
          clear H
          go_wp2_with (first | (go_at_call 4; (with_reducible refine (spec_ASCII.calls k a0 false _ A5.out).mono ?_); rintro e w' ⟨rfl, ⟨nd, rfl⟩⟩))
          go_meet
          case rel => exact ⟨_, (true), (by first | rfl | (simp; done) | (simp [*]; done)), H', ⟨by first | omega | exact Nat.le_refl _⟩, ⟨by repeat (first | (with_reducible first | exact HB.out | apply below_alloc | apply pw_below_drewN | apply below_drew1) | exact HB.out)⟩⟩
    case rest =>
      clear HC3
      try clear c2
      try clear c2b0
      try clear c2b1
      try clear p2
      try clear c3
      try clear c4
      try clear c4b0
      try clear c4b1
      try clear c6
      obtain ⟨kq, x19_2, rfl, HA, HJ2, HB⟩ := hcut
      cases kq with
      | zero => exact absurd HA.out (by simp [laws_FnEscape.j0])
      | succ kj2 =>
        have H := HA.out
        clear HA
        simp only [laws_FnEscape.j0] at H
        by_cases c8 : x19_2 = true
        · subst c8
          have H1 : (some true) = some r := by rw [if_pos rfl] at H; exact H
          clear H
          have H := H1
          clear H1
          obtain rfl := Option.some.inj H
          go_wp2
          go_ret
          exact ⟨by first | rfl | (simp [errW_none, errW_some] <;> rfl) | (simp [*, errW_none, errW_some] <;> rfl), by repeat (first | (with_reducible first | exact HB.out | apply below_alloc | apply pw_below_drewN | apply below_drew1) | exact HB.out)⟩
        · replace c8 := Bool.eq_false_iff.mpr c8
          subst c8
          have H1 : ((spec_Unescape.f kj2 a0).bind fun bt258 => ((impl_Escape.f kj2 a0).bind fun t260 => ((spec_Escape.f kj2 a0).bind fun t261 => (if t260.toList = t261.toList then (if bt258.2 = true then ((impl_Unescape.f kj2 a0).bind fun t262 => (if t262.toList = bt258.1.toList then ((impl_Escape.f kj2 a0).bind fun t263 => ((impl_Unescape.f kj2 t263).bind fun t264 => (if t264.toList = a0.toList then ((impl_Escape.f kj2 (⟨#[32]⟩ : ByteArray)).bind fun t265 => (some (t265.toList == ([37, 50, 48] : List UInt8)))) else (some false)))) else (some false))) else ((impl_Escape.f kj2 a0).bind fun t266 => ((impl_Unescape.f kj2 t266).bind fun t267 => (if t267.toList = a0.toList then ((impl_Escape.f kj2 (⟨#[32]⟩ : ByteArray)).bind fun t268 => (some (t268.toList == ([37, 50, 48] : List UInt8)))) else (some false))))) else (some false))))) = some r := by rw [if_neg (show ¬ (false = true) by decide)] at H; exact H
          clear H
          have H := H1
          clear H1
          replace H := Option.bind_eq_some_iff.mp H
          obtain ⟨⟨t258, t259⟩, A90, H⟩ := H
          replace H : ((impl_Escape.f kj2 a0).bind fun t260 => ((spec_Escape.f kj2 a0).bind fun t261 => (if t260.toList = t261.toList then (if t259 = true then ((impl_Unescape.f kj2 a0).bind fun t262 => (if t262.toList = t258.toList then ((impl_Escape.f kj2 a0).bind fun t263 => ((impl_Unescape.f kj2 t263).bind fun t264 => (if t264.toList = a0.toList then ((impl_Escape.f kj2 (⟨#[32]⟩ : ByteArray)).bind fun t265 => (some (t265.toList == ([37, 50, 48] : List UInt8)))) else (some false)))) else (some false))) else ((impl_Escape.f kj2 a0).bind fun t266 => ((impl_Unescape.f kj2 t266).bind fun t267 => (if t267.toList = a0.toList then ((impl_Escape.f kj2 (⟨#[32]⟩ : ByteArray)).bind fun t268 => (some (t268.toList == ([37, 50, 48] : List UInt8)))) else (some false))))) else (some false)))) = some r := H
          have A9 := Aside0.mk A90
          clear A90
          replace H := Option.bind_eq_some_iff.mp H
          obtain ⟨t260, A100, H⟩ := H
          replace H : ((spec_Escape.f kj2 a0).bind fun t261 => (if t260.toList = t261.toList then (if t259 = true then ((impl_Unescape.f kj2 a0).bind fun t262 => (if t262.toList = t258.toList then ((impl_Escape.f kj2 a0).bind fun t263 => ((impl_Unescape.f kj2 t263).bind fun t264 => (if t264.toList = a0.toList then ((impl_Escape.f kj2 (⟨#[32]⟩ : ByteArray)).bind fun t265 => (some (t265.toList == ([37, 50, 48] : List UInt8)))) else (some false)))) else (some false))) else ((impl_Escape.f kj2 a0).bind fun t266 => ((impl_Unescape.f kj2 t266).bind fun t267 => (if t267.toList = a0.toList then ((impl_Escape.f kj2 (⟨#[32]⟩ : ByteArray)).bind fun t268 => (some (t268.toList == ([37, 50, 48] : List UInt8)))) else (some false))))) else (some false))) = some r := H
          have A10 := Aside0.mk A100
          clear A100
          replace H := Option.bind_eq_some_iff.mp H
          obtain ⟨t261, A110, H⟩ := H
          replace H : (if t260.toList = t261.toList then (if t259 = true then ((impl_Unescape.f kj2 a0).bind fun t262 => (if t262.toList = t258.toList then ((impl_Escape.f kj2 a0).bind fun t263 => ((impl_Unescape.f kj2 t263).bind fun t264 => (if t264.toList = a0.toList then ((impl_Escape.f kj2 (⟨#[32]⟩ : ByteArray)).bind fun t265 => (some (t265.toList == ([37, 50, 48] : List UInt8)))) else (some false)))) else (some false))) else ((impl_Escape.f kj2 a0).bind fun t266 => ((impl_Unescape.f kj2 t266).bind fun t267 => (if t267.toList = a0.toList then ((impl_Escape.f kj2 (⟨#[32]⟩ : ByteArray)).bind fun t268 => (some (t268.toList == ([37, 50, 48] : List UInt8)))) else (some false))))) else (some false)) = some r := H
          have A11 := Aside0.mk A110
          clear A110
          by_cases c12 : t260.toList = t261.toList
          · rw [if_pos c12] at H
            have c12b0 : (t260.toList == t261.toList) = true := beq_iff_eq.mpr c12
            have c12b1 : (t260.toList != t261.toList) = false := bne_eq_false_iff_eq.mpr c12
            clear c12
            by_cases c13 : t259 = true
            · subst c13
              have H1 : ((impl_Unescape.f kj2 a0).bind fun t262 => (if t262.toList = t258.toList then ((impl_Escape.f kj2 a0).bind fun t263 => ((impl_Unescape.f kj2 t263).bind fun t264 => (if t264.toList = a0.toList then ((impl_Escape.f kj2 (⟨#[32]⟩ : ByteArray)).bind fun t265 => (some (t265.toList == ([37, 50, 48] : List UInt8)))) else (some false)))) else (some false))) = some r := by rw [if_pos rfl] at H; exact H
              clear H
              have H := H1
              clear H1
              replace H := Option.bind_eq_some_iff.mp H
              obtain ⟨t262, A140, H⟩ := H
              replace H : (if t262.toList = t258.toList then ((impl_Escape.f kj2 a0).bind fun t263 => ((impl_Unescape.f kj2 t263).bind fun t264 => (if t264.toList = a0.toList then ((impl_Escape.f kj2 (⟨#[32]⟩ : ByteArray)).bind fun t265 => (some (t265.toList == ([37, 50, 48] : List UInt8)))) else (some false)))) else (some false)) = some r := H
              have A14 := Aside0.mk A140
              clear A140
              by_cases c15 : t262.toList = t258.toList
              · rw [if_pos c15] at H
                have c15b0 : (t262.toList == t258.toList) = true := beq_iff_eq.mpr c15
                have c15b1 : (t262.toList != t258.toList) = false := bne_eq_false_iff_eq.mpr c15
                clear c15
                replace H := Option.bind_eq_some_iff.mp H
                obtain ⟨t263, A160, H⟩ := H
                replace H : ((impl_Unescape.f kj2 t263).bind fun t264 => (if t264.toList = a0.toList then ((impl_Escape.f kj2 (⟨#[32]⟩ : ByteArray)).bind fun t265 => (some (t265.toList == ([37, 50, 48] : List UInt8)))) else (some false))) = some r := H
                have A16 := Aside0.mk A160
                clear A160
                replace H := Option.bind_eq_some_iff.mp H
                obtain ⟨t264, A170, H⟩ := H
                replace H : (if t264.toList = a0.toList then ((impl_Escape.f kj2 (⟨#[32]⟩ : ByteArray)).bind fun t265 => (some (t265.toList == ([37, 50, 48] : List UInt8)))) else (some false)) = some r := H
                have A17 := Aside0.mk A170
                clear A170
                by_cases c18 : t264.toList = a0.toList
                · rw [if_pos c18] at H
                  have c18b0 : (t264.toList == a0.toList) = true := beq_iff_eq.mpr c18
                  have c18b1 : (t264.toList != a0.toList) = false := bne_eq_false_iff_eq.mpr c18
                  clear c18
                  replace H := Option.bind_eq_some_iff.mp H
                  obtain ⟨t265, A190, H⟩ := H
                  replace H : (some (t265.toList == ([37, 50, 48] : List UInt8))) = some r := H
                  have A19 := Aside0.mk A190
                  clear A190
                  obtain rfl := Option.some.inj H
                  go_wp2_with (first | ((with_reducible refine gate_callee (f := 6) rfl ?_); refine goesL_ (some 22) rfl rfl Tryd.func6 (by kernel_rfl) rfl #[.string a0] rfl (by (try simp only [List.map_toArray, List.map_cons, List.map_nil]); first | done | rfl | (simp only [List.length_drop, List.length_take]; rfl)) ?_; (with_reducible refine (spec_Unescape.calls kj2 a0 t258 true _ A9.out).mono ?_); rintro e w20 ⟨rfl, hb⟩; refine ⟨_, rfl, ?_⟩; have n0_ := Aside0.mk (below_step (by repeat (first | (with_reducible first | exact HB.out | apply below_alloc | apply pw_below_drewN | apply below_drew1) | exact HB.out)) hb); clear HB; have HB := n0_; clear n0_; (try clear hb); (try clear hb2); (try clear hk); (try clear hi)) | ((with_reducible refine gate_callee (f := 7) rfl ?_); refine goesL_ (some 26) rfl rfl Tryd.func7 (by kernel_rfl) rfl #[.string a0] rfl (by (try simp only [List.map_toArray, List.map_cons, List.map_nil]); first | done | rfl | (simp only [List.length_drop, List.length_take]; rfl)) ?_; (with_reducible refine (impl_Escape.calls kj2 a0 t260 _ A10.out).mono ?_); rintro e w21 ⟨rfl, hb⟩; refine ⟨_, rfl, ?_⟩; have n0_ := Aside0.mk (below_step (by repeat (first | (with_reducible first | exact HB.out | apply below_alloc | apply pw_below_drewN | apply below_drew1) | exact HB.out)) hb); clear HB; have HB := n0_; clear n0_; (try clear hb); (try clear hb2); (try clear hk); (try clear hi)) | ((with_reducible refine gate_callee (f := 8) rfl ?_); refine goesL_ (some 28) rfl rfl Tryd.func8 (by kernel_rfl) rfl #[.string a0] rfl (by (try simp only [List.map_toArray, List.map_cons, List.map_nil]); first | done | rfl | (simp only [List.length_drop, List.length_take]; rfl)) ?_; (with_reducible refine (spec_Escape.calls kj2 a0 t261 _ A11.out).mono ?_); rintro e w22 ⟨rfl, hb⟩; refine ⟨_, rfl, ?_⟩; have n0_ := Aside0.mk (below_step (by repeat (first | (with_reducible first | exact HB.out | apply below_alloc | apply pw_below_drewN | apply below_drew1) | exact HB.out)) hb); clear HB; have HB := n0_; clear n0_; (try clear hb); (try clear hb2); (try clear hk); (try clear hi)) | (go_at_call 9; (with_reducible refine (impl_Unescape.calls kj2 a0 t262 _ A14.out).mono ?_); rintro e w23 ⟨rfl, hb⟩; have n0_ := Aside0.mk (below_step (by repeat (first | (with_reducible first | exact HB.out | apply below_alloc | apply pw_below_drewN | apply below_drew1) | exact HB.out)) hb); clear HB; have HB := n0_; clear n0_; (try clear hb); (try clear hb2); (try clear hk); (try clear hi)) | (go_at_call 7; (with_reducible refine (impl_Escape.calls kj2 a0 t263 _ A16.out).mono ?_); rintro e w24 ⟨rfl, hb⟩; have n0_ := Aside0.mk (below_step (by repeat (first | (with_reducible first | exact HB.out | apply below_alloc | apply pw_below_drewN | apply below_drew1) | exact HB.out)) hb); clear HB; have HB := n0_; clear n0_; (try clear hb); (try clear hb2); (try clear hk); (try clear hi)) | (go_at_call 9; (with_reducible refine (impl_Unescape.calls kj2 t263 t264 _ A17.out).mono ?_); rintro e w25 ⟨rfl, hb⟩; have n0_ := Aside0.mk (below_step (by repeat (first | (with_reducible first | exact HB.out | apply below_alloc | apply pw_below_drewN | apply below_drew1) | exact HB.out)) hb); clear HB; have HB := n0_; clear n0_; (try clear hb); (try clear hb2); (try clear hk); (try clear hi)) | (go_at_call 7; (with_reducible refine (impl_Escape.calls kj2 (⟨#[32]⟩ : ByteArray) t265 _ A19.out).mono ?_); rintro e w26 ⟨rfl, hb⟩; have n0_ := Aside0.mk (below_step (by repeat (first | (with_reducible first | exact HB.out | apply below_alloc | apply pw_below_drewN | apply below_drew1) | exact HB.out)) hb); clear HB; have HB := n0_; clear n0_; (try clear hb); (try clear hb2); (try clear hk); (try clear hi)))
                  go_ret
                  exact ⟨by first | rfl | (simp [errW_none, errW_some] <;> rfl) | (simp [*, errW_none, errW_some] <;> rfl), by repeat (first | (with_reducible first | exact HB.out | apply below_alloc | apply pw_below_drewN | apply below_drew1) | exact HB.out)⟩
                · rw [if_neg c18] at H
                  have c18b0 : (t264.toList == a0.toList) = false := beq_eq_false_iff_ne.mpr c18
                  have c18b1 : (t264.toList != a0.toList) = true := bne_iff_ne.mpr c18
                  obtain rfl := Option.some.inj H
                  go_wp2_with (first | ((with_reducible refine gate_callee (f := 6) rfl ?_); refine goesL_ (some 22) rfl rfl Tryd.func6 (by kernel_rfl) rfl #[.string a0] rfl (by (try simp only [List.map_toArray, List.map_cons, List.map_nil]); first | done | rfl | (simp only [List.length_drop, List.length_take]; rfl)) ?_; (with_reducible refine (spec_Unescape.calls kj2 a0 t258 true _ A9.out).mono ?_); rintro e w27 ⟨rfl, hb⟩; refine ⟨_, rfl, ?_⟩; have n0_ := Aside0.mk (below_step (by repeat (first | (with_reducible first | exact HB.out | apply below_alloc | apply pw_below_drewN | apply below_drew1) | exact HB.out)) hb); clear HB; have HB := n0_; clear n0_; (try clear hb); (try clear hb2); (try clear hk); (try clear hi)) | ((with_reducible refine gate_callee (f := 7) rfl ?_); refine goesL_ (some 26) rfl rfl Tryd.func7 (by kernel_rfl) rfl #[.string a0] rfl (by (try simp only [List.map_toArray, List.map_cons, List.map_nil]); first | done | rfl | (simp only [List.length_drop, List.length_take]; rfl)) ?_; (with_reducible refine (impl_Escape.calls kj2 a0 t260 _ A10.out).mono ?_); rintro e w28 ⟨rfl, hb⟩; refine ⟨_, rfl, ?_⟩; have n0_ := Aside0.mk (below_step (by repeat (first | (with_reducible first | exact HB.out | apply below_alloc | apply pw_below_drewN | apply below_drew1) | exact HB.out)) hb); clear HB; have HB := n0_; clear n0_; (try clear hb); (try clear hb2); (try clear hk); (try clear hi)) | ((with_reducible refine gate_callee (f := 8) rfl ?_); refine goesL_ (some 28) rfl rfl Tryd.func8 (by kernel_rfl) rfl #[.string a0] rfl (by (try simp only [List.map_toArray, List.map_cons, List.map_nil]); first | done | rfl | (simp only [List.length_drop, List.length_take]; rfl)) ?_; (with_reducible refine (spec_Escape.calls kj2 a0 t261 _ A11.out).mono ?_); rintro e w29 ⟨rfl, hb⟩; refine ⟨_, rfl, ?_⟩; have n0_ := Aside0.mk (below_step (by repeat (first | (with_reducible first | exact HB.out | apply below_alloc | apply pw_below_drewN | apply below_drew1) | exact HB.out)) hb); clear HB; have HB := n0_; clear n0_; (try clear hb); (try clear hb2); (try clear hk); (try clear hi)) | (go_at_call 9; (with_reducible refine (impl_Unescape.calls kj2 a0 t262 _ A14.out).mono ?_); rintro e w30 ⟨rfl, hb⟩; have n0_ := Aside0.mk (below_step (by repeat (first | (with_reducible first | exact HB.out | apply below_alloc | apply pw_below_drewN | apply below_drew1) | exact HB.out)) hb); clear HB; have HB := n0_; clear n0_; (try clear hb); (try clear hb2); (try clear hk); (try clear hi)) | (go_at_call 7; (with_reducible refine (impl_Escape.calls kj2 a0 t263 _ A16.out).mono ?_); rintro e w31 ⟨rfl, hb⟩; have n0_ := Aside0.mk (below_step (by repeat (first | (with_reducible first | exact HB.out | apply below_alloc | apply pw_below_drewN | apply below_drew1) | exact HB.out)) hb); clear HB; have HB := n0_; clear n0_; (try clear hb); (try clear hb2); (try clear hk); (try clear hi)) | (go_at_call 9; (with_reducible refine (impl_Unescape.calls kj2 t263 t264 _ A17.out).mono ?_); rintro e w32 ⟨rfl, hb⟩; have n0_ := Aside0.mk (below_step (by repeat (first | (with_reducible first | exact HB.out | apply below_alloc | apply pw_below_drewN | apply below_drew1) | exact HB.out)) hb); clear HB; have HB := n0_; clear n0_; (try clear hb); (try clear hb2); (try clear hk); (try clear hi)))
                  go_ret
                  exact ⟨by first | rfl | (simp [errW_none, errW_some] <;> rfl) | (simp [*, errW_none, errW_some] <;> rfl), by repeat (first | (with_reducible first | exact HB.out | apply below_alloc | apply pw_below_drewN | apply below_drew1) | exact HB.out)⟩
              · rw [if_neg c15] at H
                have c15b0 : (t262.toList == t258.toList) = false := beq_eq_false_iff_ne.mpr c15
                have c15b1 : (t262.toList != t258.toList) = true := bne_iff_ne.mpr c15
                obtain rfl := Option.some.inj H
                go_wp2_with (first | ((with_reducible refine gate_callee (f := 6) rfl ?_); refine goesL_ (some 22) rfl rfl Tryd.func6 (by kernel_rfl) rfl #[.string a0] rfl (by (try simp only [List.map_toArray, List.map_cons, List.map_nil]); first | done | rfl | (simp only [List.length_drop, List.length_take]; rfl)) ?_; (with_reducible refine (spec_Unescape.calls kj2 a0 t258 true _ A9.out).mono ?_); rintro e w33 ⟨rfl, hb⟩; refine ⟨_, rfl, ?_⟩; have n0_ := Aside0.mk (below_step (by repeat (first | (with_reducible first | exact HB.out | apply below_alloc | apply pw_below_drewN | apply below_drew1) | exact HB.out)) hb); clear HB; have HB := n0_; clear n0_; (try clear hb); (try clear hb2); (try clear hk); (try clear hi)) | ((with_reducible refine gate_callee (f := 7) rfl ?_); refine goesL_ (some 26) rfl rfl Tryd.func7 (by kernel_rfl) rfl #[.string a0] rfl (by (try simp only [List.map_toArray, List.map_cons, List.map_nil]); first | done | rfl | (simp only [List.length_drop, List.length_take]; rfl)) ?_; (with_reducible refine (impl_Escape.calls kj2 a0 t260 _ A10.out).mono ?_); rintro e w34 ⟨rfl, hb⟩; refine ⟨_, rfl, ?_⟩; have n0_ := Aside0.mk (below_step (by repeat (first | (with_reducible first | exact HB.out | apply below_alloc | apply pw_below_drewN | apply below_drew1) | exact HB.out)) hb); clear HB; have HB := n0_; clear n0_; (try clear hb); (try clear hb2); (try clear hk); (try clear hi)) | ((with_reducible refine gate_callee (f := 8) rfl ?_); refine goesL_ (some 28) rfl rfl Tryd.func8 (by kernel_rfl) rfl #[.string a0] rfl (by (try simp only [List.map_toArray, List.map_cons, List.map_nil]); first | done | rfl | (simp only [List.length_drop, List.length_take]; rfl)) ?_; (with_reducible refine (spec_Escape.calls kj2 a0 t261 _ A11.out).mono ?_); rintro e w35 ⟨rfl, hb⟩; refine ⟨_, rfl, ?_⟩; have n0_ := Aside0.mk (below_step (by repeat (first | (with_reducible first | exact HB.out | apply below_alloc | apply pw_below_drewN | apply below_drew1) | exact HB.out)) hb); clear HB; have HB := n0_; clear n0_; (try clear hb); (try clear hb2); (try clear hk); (try clear hi)) | (go_at_call 9; (with_reducible refine (impl_Unescape.calls kj2 a0 t262 _ A14.out).mono ?_); rintro e w36 ⟨rfl, hb⟩; have n0_ := Aside0.mk (below_step (by repeat (first | (with_reducible first | exact HB.out | apply below_alloc | apply pw_below_drewN | apply below_drew1) | exact HB.out)) hb); clear HB; have HB := n0_; clear n0_; (try clear hb); (try clear hb2); (try clear hk); (try clear hi)))
                go_ret
                exact ⟨by first | rfl | (simp [errW_none, errW_some] <;> rfl) | (simp [*, errW_none, errW_some] <;> rfl), by repeat (first | (with_reducible first | exact HB.out | apply below_alloc | apply pw_below_drewN | apply below_drew1) | exact HB.out)⟩
            · replace c13 := Bool.eq_false_iff.mpr c13
              subst c13
              have H1 : ((impl_Escape.f kj2 a0).bind fun t266 => ((impl_Unescape.f kj2 t266).bind fun t267 => (if t267.toList = a0.toList then ((impl_Escape.f kj2 (⟨#[32]⟩ : ByteArray)).bind fun t268 => (some (t268.toList == ([37, 50, 48] : List UInt8)))) else (some false)))) = some r := by rw [if_neg (show ¬ (false = true) by decide)] at H; exact H
              clear H
              have H := H1
              clear H1
              replace H := Option.bind_eq_some_iff.mp H
              obtain ⟨t266, A370, H⟩ := H
              replace H : ((impl_Unescape.f kj2 t266).bind fun t267 => (if t267.toList = a0.toList then ((impl_Escape.f kj2 (⟨#[32]⟩ : ByteArray)).bind fun t268 => (some (t268.toList == ([37, 50, 48] : List UInt8)))) else (some false))) = some r := H
              have A37 := Aside0.mk A370
              clear A370
              replace H := Option.bind_eq_some_iff.mp H
              obtain ⟨t267, A380, H⟩ := H
              replace H : (if t267.toList = a0.toList then ((impl_Escape.f kj2 (⟨#[32]⟩ : ByteArray)).bind fun t268 => (some (t268.toList == ([37, 50, 48] : List UInt8)))) else (some false)) = some r := H
              have A38 := Aside0.mk A380
              clear A380
              by_cases c39 : t267.toList = a0.toList
              · rw [if_pos c39] at H
                have c39b0 : (t267.toList == a0.toList) = true := beq_iff_eq.mpr c39
                have c39b1 : (t267.toList != a0.toList) = false := bne_eq_false_iff_eq.mpr c39
                clear c39
                replace H := Option.bind_eq_some_iff.mp H
                obtain ⟨t268, A400, H⟩ := H
                replace H : (some (t268.toList == ([37, 50, 48] : List UInt8))) = some r := H
                have A40 := Aside0.mk A400
                clear A400
                obtain rfl := Option.some.inj H
                go_wp2_with (first | ((with_reducible refine gate_callee (f := 6) rfl ?_); refine goesL_ (some 22) rfl rfl Tryd.func6 (by kernel_rfl) rfl #[.string a0] rfl (by (try simp only [List.map_toArray, List.map_cons, List.map_nil]); first | done | rfl | (simp only [List.length_drop, List.length_take]; rfl)) ?_; (with_reducible refine (spec_Unescape.calls kj2 a0 t258 false _ A9.out).mono ?_); rintro e w41 ⟨rfl, hb⟩; refine ⟨_, rfl, ?_⟩; have n0_ := Aside0.mk (below_step (by repeat (first | (with_reducible first | exact HB.out | apply below_alloc | apply pw_below_drewN | apply below_drew1) | exact HB.out)) hb); clear HB; have HB := n0_; clear n0_; (try clear hb); (try clear hb2); (try clear hk); (try clear hi)) | ((with_reducible refine gate_callee (f := 7) rfl ?_); refine goesL_ (some 26) rfl rfl Tryd.func7 (by kernel_rfl) rfl #[.string a0] rfl (by (try simp only [List.map_toArray, List.map_cons, List.map_nil]); first | done | rfl | (simp only [List.length_drop, List.length_take]; rfl)) ?_; (with_reducible refine (impl_Escape.calls kj2 a0 t260 _ A10.out).mono ?_); rintro e w42 ⟨rfl, hb⟩; refine ⟨_, rfl, ?_⟩; have n0_ := Aside0.mk (below_step (by repeat (first | (with_reducible first | exact HB.out | apply below_alloc | apply pw_below_drewN | apply below_drew1) | exact HB.out)) hb); clear HB; have HB := n0_; clear n0_; (try clear hb); (try clear hb2); (try clear hk); (try clear hi)) | ((with_reducible refine gate_callee (f := 8) rfl ?_); refine goesL_ (some 28) rfl rfl Tryd.func8 (by kernel_rfl) rfl #[.string a0] rfl (by (try simp only [List.map_toArray, List.map_cons, List.map_nil]); first | done | rfl | (simp only [List.length_drop, List.length_take]; rfl)) ?_; (with_reducible refine (spec_Escape.calls kj2 a0 t261 _ A11.out).mono ?_); rintro e w43 ⟨rfl, hb⟩; refine ⟨_, rfl, ?_⟩; have n0_ := Aside0.mk (below_step (by repeat (first | (with_reducible first | exact HB.out | apply below_alloc | apply pw_below_drewN | apply below_drew1) | exact HB.out)) hb); clear HB; have HB := n0_; clear n0_; (try clear hb); (try clear hb2); (try clear hk); (try clear hi)) | (go_at_call 7; (with_reducible refine (impl_Escape.calls kj2 a0 t266 _ A37.out).mono ?_); rintro e w44 ⟨rfl, hb⟩; have n0_ := Aside0.mk (below_step (by repeat (first | (with_reducible first | exact HB.out | apply below_alloc | apply pw_below_drewN | apply below_drew1) | exact HB.out)) hb); clear HB; have HB := n0_; clear n0_; (try clear hb); (try clear hb2); (try clear hk); (try clear hi)) | (go_at_call 9; (with_reducible refine (impl_Unescape.calls kj2 t266 t267 _ A38.out).mono ?_); rintro e w45 ⟨rfl, hb⟩; have n0_ := Aside0.mk (below_step (by repeat (first | (with_reducible first | exact HB.out | apply below_alloc | apply pw_below_drewN | apply below_drew1) | exact HB.out)) hb); clear HB; have HB := n0_; clear n0_; (try clear hb); (try clear hb2); (try clear hk); (try clear hi)) | (go_at_call 7; (with_reducible refine (impl_Escape.calls kj2 (⟨#[32]⟩ : ByteArray) t268 _ A40.out).mono ?_); rintro e w46 ⟨rfl, hb⟩; have n0_ := Aside0.mk (below_step (by repeat (first | (with_reducible first | exact HB.out | apply below_alloc | apply pw_below_drewN | apply below_drew1) | exact HB.out)) hb); clear HB; have HB := n0_; clear n0_; (try clear hb); (try clear hb2); (try clear hk); (try clear hi)))
                go_ret
                exact ⟨by first | rfl | (simp [errW_none, errW_some] <;> rfl) | (simp [*, errW_none, errW_some] <;> rfl), by repeat (first | (with_reducible first | exact HB.out | apply below_alloc | apply pw_below_drewN | apply below_drew1) | exact HB.out)⟩
              · rw [if_neg c39] at H
                have c39b0 : (t267.toList == a0.toList) = false := beq_eq_false_iff_ne.mpr c39
                have c39b1 : (t267.toList != a0.toList) = true := bne_iff_ne.mpr c39
                obtain rfl := Option.some.inj H
                go_wp2_with (first | ((with_reducible refine gate_callee (f := 6) rfl ?_); refine goesL_ (some 22) rfl rfl Tryd.func6 (by kernel_rfl) rfl #[.string a0] rfl (by (try simp only [List.map_toArray, List.map_cons, List.map_nil]); first | done | rfl | (simp only [List.length_drop, List.length_take]; rfl)) ?_; (with_reducible refine (spec_Unescape.calls kj2 a0 t258 false _ A9.out).mono ?_); rintro e w47 ⟨rfl, hb⟩; refine ⟨_, rfl, ?_⟩; have n0_ := Aside0.mk (below_step (by repeat (first | (with_reducible first | exact HB.out | apply below_alloc | apply pw_below_drewN | apply below_drew1) | exact HB.out)) hb); clear HB; have HB := n0_; clear n0_; (try clear hb); (try clear hb2); (try clear hk); (try clear hi)) | ((with_reducible refine gate_callee (f := 7) rfl ?_); refine goesL_ (some 26) rfl rfl Tryd.func7 (by kernel_rfl) rfl #[.string a0] rfl (by (try simp only [List.map_toArray, List.map_cons, List.map_nil]); first | done | rfl | (simp only [List.length_drop, List.length_take]; rfl)) ?_; (with_reducible refine (impl_Escape.calls kj2 a0 t260 _ A10.out).mono ?_); rintro e w48 ⟨rfl, hb⟩; refine ⟨_, rfl, ?_⟩; have n0_ := Aside0.mk (below_step (by repeat (first | (with_reducible first | exact HB.out | apply below_alloc | apply pw_below_drewN | apply below_drew1) | exact HB.out)) hb); clear HB; have HB := n0_; clear n0_; (try clear hb); (try clear hb2); (try clear hk); (try clear hi)) | ((with_reducible refine gate_callee (f := 8) rfl ?_); refine goesL_ (some 28) rfl rfl Tryd.func8 (by kernel_rfl) rfl #[.string a0] rfl (by (try simp only [List.map_toArray, List.map_cons, List.map_nil]); first | done | rfl | (simp only [List.length_drop, List.length_take]; rfl)) ?_; (with_reducible refine (spec_Escape.calls kj2 a0 t261 _ A11.out).mono ?_); rintro e w49 ⟨rfl, hb⟩; refine ⟨_, rfl, ?_⟩; have n0_ := Aside0.mk (below_step (by repeat (first | (with_reducible first | exact HB.out | apply below_alloc | apply pw_below_drewN | apply below_drew1) | exact HB.out)) hb); clear HB; have HB := n0_; clear n0_; (try clear hb); (try clear hb2); (try clear hk); (try clear hi)) | (go_at_call 7; (with_reducible refine (impl_Escape.calls kj2 a0 t266 _ A37.out).mono ?_); rintro e w50 ⟨rfl, hb⟩; have n0_ := Aside0.mk (below_step (by repeat (first | (with_reducible first | exact HB.out | apply below_alloc | apply pw_below_drewN | apply below_drew1) | exact HB.out)) hb); clear HB; have HB := n0_; clear n0_; (try clear hb); (try clear hb2); (try clear hk); (try clear hi)) | (go_at_call 9; (with_reducible refine (impl_Unescape.calls kj2 t266 t267 _ A38.out).mono ?_); rintro e w51 ⟨rfl, hb⟩; have n0_ := Aside0.mk (below_step (by repeat (first | (with_reducible first | exact HB.out | apply below_alloc | apply pw_below_drewN | apply below_drew1) | exact HB.out)) hb); clear HB; have HB := n0_; clear n0_; (try clear hb); (try clear hb2); (try clear hk); (try clear hi)))
                go_ret
                exact ⟨by first | rfl | (simp [errW_none, errW_some] <;> rfl) | (simp [*, errW_none, errW_some] <;> rfl), by repeat (first | (with_reducible first | exact HB.out | apply below_alloc | apply pw_below_drewN | apply below_drew1) | exact HB.out)⟩
          · rw [if_neg c12] at H
            have c12b0 : (t260.toList == t261.toList) = false := beq_eq_false_iff_ne.mpr c12
            have c12b1 : (t260.toList != t261.toList) = true := bne_iff_ne.mpr c12
            obtain rfl := Option.some.inj H
            go_wp2_with (first | ((with_reducible refine gate_callee (f := 6) rfl ?_); refine goesL_ (some 22) rfl rfl Tryd.func6 (by kernel_rfl) rfl #[.string a0] rfl (by (try simp only [List.map_toArray, List.map_cons, List.map_nil]); first | done | rfl | (simp only [List.length_drop, List.length_take]; rfl)) ?_; (with_reducible refine (spec_Unescape.calls kj2 a0 t258 t259 _ A9.out).mono ?_); rintro e w52 ⟨rfl, hb⟩; refine ⟨_, rfl, ?_⟩; have n0_ := Aside0.mk (below_step (by repeat (first | (with_reducible first | exact HB.out | apply below_alloc | apply pw_below_drewN | apply below_drew1) | exact HB.out)) hb); clear HB; have HB := n0_; clear n0_; (try clear hb); (try clear hb2); (try clear hk); (try clear hi)) | ((with_reducible refine gate_callee (f := 7) rfl ?_); refine goesL_ (some 26) rfl rfl Tryd.func7 (by kernel_rfl) rfl #[.string a0] rfl (by (try simp only [List.map_toArray, List.map_cons, List.map_nil]); first | done | rfl | (simp only [List.length_drop, List.length_take]; rfl)) ?_; (with_reducible refine (impl_Escape.calls kj2 a0 t260 _ A10.out).mono ?_); rintro e w53 ⟨rfl, hb⟩; refine ⟨_, rfl, ?_⟩; have n0_ := Aside0.mk (below_step (by repeat (first | (with_reducible first | exact HB.out | apply below_alloc | apply pw_below_drewN | apply below_drew1) | exact HB.out)) hb); clear HB; have HB := n0_; clear n0_; (try clear hb); (try clear hb2); (try clear hk); (try clear hi)) | ((with_reducible refine gate_callee (f := 8) rfl ?_); refine goesL_ (some 28) rfl rfl Tryd.func8 (by kernel_rfl) rfl #[.string a0] rfl (by (try simp only [List.map_toArray, List.map_cons, List.map_nil]); first | done | rfl | (simp only [List.length_drop, List.length_take]; rfl)) ?_; (with_reducible refine (spec_Escape.calls kj2 a0 t261 _ A11.out).mono ?_); rintro e w54 ⟨rfl, hb⟩; refine ⟨_, rfl, ?_⟩; have n0_ := Aside0.mk (below_step (by repeat (first | (with_reducible first | exact HB.out | apply below_alloc | apply pw_below_drewN | apply below_drew1) | exact HB.out)) hb); clear HB; have HB := n0_; clear n0_; (try clear hb); (try clear hb2); (try clear hk); (try clear hi)))
            go_ret
            exact ⟨by first | rfl | (simp [errW_none, errW_some] <;> rfl) | (simp [*, errW_none, errW_some] <;> rfl), by repeat (first | (with_reducible first | exact HB.out | apply below_alloc | apply pw_below_drewN | apply below_drew1) | exact HB.out)⟩

/-- THE ONE PURE STATEMENT of laws_FnEscape: yours. -/
def laws_FnEscape.Pure : Prop := ∀ (a0 : ByteArray), a0.size ≤ 140737488351232 → ∃ k, laws_FnEscape.f k a0 = some true
theorem laws_FnEscape.walk (P : laws_FnEscape.Pure) (a0 : ByteArray) (w : World) (w0 : a0.size ≤ 140737488351232) :
    Calls Tryd.prog 3 #[.string a0] w fun e w' => e = .returned (.bool true) ∧ Below w.heap.size w w' := by
  obtain ⟨k, h⟩ := P a0 w0
  refine (laws_FnEscape.calls k a0 true w h).mono ?_
  rintro e w' ⟨rfl, hd⟩
  exact ⟨rfl, hd⟩

end Go.Proofs.YtllaepgbpmiglaaDoor.QFnEscape
