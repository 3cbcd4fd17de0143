/- Walk: the reference's StringNumber. Conditions: the text is ASCII, of at most 5000 bytes. -/
import Derived.Test.YtllaepgbpmiglaaGreatDoorTrim
import Derived.Test.YtllaepgbpmiglaaGreatDoorHexS
import Derived.Test.YtllaepgbpmiglaaGreatDoorPuint
import Derived.Outline
namespace Go.Proofs.YtllaepgbpmiglaaGreatDoor
open Go.RowKit Go.Proofs.YtllaepgbpmiglaaGreatDoorW.PrintWords Go.Proofs.YtllaepgbpmiglaaGreatDoor.QNum Floats
theorem space_calls (c : Int) (w : World) : Calls Tryz.prog 10 #[.int .u8 c] w fun e w' => e = .returned (.bool (spc c)) ∧ Drawn0 w w' := spec_isSpace.calls c _ w (isSpace_eq c)
theorem trimL_empty (k : Nat) (x : ByteArray) (hz : x.size = 0) : trimL k x = x := by cases k with
  | zero => rfl
  | succ k => unfold trimL; rw [if_pos hz]
theorem trimL_go (k : Nat) (x : ByteArray) (hz : ¬ x.size = 0) (h : spc (bt x 0) = true) : trimL (k + 1) x = trimL k (x.extract 1 x.size) := by
  conv => lhs; unfold trimL
  rw [if_neg hz, if_pos h]
theorem trimL_stop (k : Nat) (x : ByteArray) (hz : ¬ x.size = 0) (h : ¬ spc (bt x 0) = true) : trimL (k + 1) x = x := by
  conv => lhs; unfold trimL
  rw [if_neg hz, if_neg h]
theorem trimR_empty (k : Nat) (x : ByteArray) (hz : x.size = 0) : trimR k x = x := by cases k with
  | zero => rfl
  | succ k => unfold trimR; rw [if_pos hz]
theorem trimR_go (k : Nat) (x : ByteArray) (hz : ¬ x.size = 0) (h : spc (bt x ((x.size : Int) - 1)) = true) : trimR (k + 1) x = trimR k (x.extract 0 (x.size - 1)) := by
  conv => lhs; unfold trimR
  rw [if_neg hz, if_pos h]
theorem trimR_stop (k : Nat) (x : ByteArray) (hz : ¬ x.size = 0) (h : ¬ spc (bt x ((x.size : Int) - 1)) = true) : trimR (k + 1) x = x := by
  conv => lhs; unfold trimR
  rw [if_neg hz, if_neg h]
/-- A word that is no number. -/
def IsNan (v : Nat) : Prop := ∃ b g, D.read v = .nan b g
/-- The NaN that the machine hands back where a product is none. -/
def nanOf (W : World) (x y : Nat) : Nat := Question.cut (.nanBits .f64 x y) (W.tape W.drawn (.nanBits .f64 x y))
theorem nanOf_is (W : World) (x y : Nat) : IsNan (nanOf W x y) := by
  unfold nanOf
  generalize W.tape W.drawn (.nanBits .f64 x y) = t
  have h := read_nan (t % 2) (1 + t / 2 % 4503599627370495) (by omega) (by omega)
  rw [← Nat.add_assoc] at h
  exact h
theorem run_mul_none (x y : Nat) (h : floatBits .mul .f64 x y = none) (W : World) : (binOp .mul 23 (.float .f64 x) (.float .f64 y)).run Tryz.prog W = .ok (.float .f64 (nanOf W x y)) W.drew := by
  unfold floatBits at h
  simp only at h
  simp [binOp, Op.floatArith, h, Question.forced, nanOf]
/-- Where a text's number begins, and its sign. -/
def SignAt (t : ByteArray) (off : Nat) (neg : Bool) : Prop :=
  (off = 0 ∧ neg = false ∧ bt t 0 ≠ 43 ∧ bt t 0 ≠ 45) ∨ (off = 1 ∧ neg = false ∧ bt t 0 = 43) ∨ (off = 1 ∧ neg = true ∧ bt t 0 = 45)
abbrev infB : ByteArray := ⟨#[73, 110, 102, 105, 110, 105, 116, 121]⟩
/-- What the reference has said of a text that is trimmed. -/
inductive Says (t : ByteArray) (r : Nat) : Prop
  | empty (h : t.size = 0) (hr : r = 0)
  | hex (h2 : 2 < t.size) (h48 : bt t 0 = 48) (hx : bt t 1 = 120 ∨ bt t 1 = 88) (h : HexShape (t.extract 2 t.size) r)
  | infinity (off : Nat) (neg : Bool) (hz : 0 < t.size) (hs : SignAt t off neg) (h : t.extract off t.size = infB) (hr : r = D.word neg 9218868437227405312)
  | frac (off n : Nat) (neg : Bool) (v : Nat) (hz : 0 < t.size) (hs : SignAt t off neg) (hn : off + n = t.size) (hx : ¬ (2 < t.size ∧ bt t 0 = 48 ∧ (bt t 1 = 120 ∨ bt t 1 = 88))) (h : Shape (fun j => bt t ((off + j : Nat) : Int)) n 0 0 0 0 false v)
      (hr : floatBits .mul .f64 (D.word neg 4607182418800017408) v = some r ∨ (floatBits .mul .f64 (D.word neg 4607182418800017408) v = none ∧ IsNan r))
theorem Shape.congr {f g : Nat → Int} {n i : Nat} {m : Int} {c k : Nat} {dot : Bool} {v : Nat} (hfg : ∀ j, j < n → f j = g j) (h : Shape f n i m c k dot v) : Shape g n i m c k dot v := by
  induction h with
  | done i m c k dot v hi hc hv => exact .done i m c k dot v hi hc hv
  | empty i m k dot hi => exact .empty i m k dot hi
  | stop i m c k dot hi hd hp hu he hs hx =>
    have e := hfg i hi
    have e1 := hfg (i - 1) (by omega)
    rw [e] at hd hp hu he hs hx
    rw [e1] at hx
    exact .stop i m c k dot hi hd hp hu he hs hx
  | point i m c k v hi hp _ ih => exact .point i m c k v hi (by rw [← hfg i hi]; exact hp) ih
  | digit i m c k dot v hi hd hc _ ih =>
    have e := hfg i hi
    rw [e] at hd ih
    exact .digit i m c k dot v hi hd hc ih
theorem inf_list (u : ByteArray) : u.toList = [73, 110, 102, 105, 110, 105, 116, 121] ↔ u = infB := by
  rw [ByteArray.toList_eq]
  constructor
  · intro h
    obtain ⟨⟨l⟩⟩ := u
    simp only at h
    rw [h]
  · intro h
    rw [h]
theorem inf_yes {u : ByteArray} (h : u = infB) : (u.toList == [73, 110, 102, 105, 110, 105, 116, 121]) = true := beq_iff_eq.2 ((inf_list u).2 h)
theorem inf_no {u : ByteArray} (h : ¬ u = infB) : (u.toList == [73, 110, 102, 105, 110, 105, 116, 121]) = false := beq_eq_false_iff_ne.2 (fun e => h ((inf_list u).1 e))
theorem one_word_false : D.word false 4607182418800017408 = 4607182418800017408 := word_false _
theorem one_word_true : D.word true 4607182418800017408 = 13830554455654793216 := by rw [word_eq, if_pos rfl]
theorem ext_all {t u : ByteArray} (h : t = u) : t.extract 0 t.size = u := by rw [ByteArray.extract_zero_size]; exact h
theorem shape_all {t : ByteArray} {v : Nat} (h : Shape (fun j => bt t j) t.size 0 0 0 0 false v) : Shape (fun j => bt t ((0 + j : Nat) : Int)) t.size 0 0 0 0 false v :=
  h.congr (fun j _ => by rw [Nat.zero_add])
theorem shape_tail {t : ByteArray} {v : Nat} (hz : 0 < t.size) (h : Shape (fun j => bt (t.extract 1 t.size) j) (t.extract 1 t.size).size 0 0 0 0 false v) : Shape (fun j => bt t ((1 + j : Nat) : Int)) (t.size - 1) 0 0 0 0 false v := by
  have e : (t.extract 1 t.size).size = t.size - 1 := by rw [ByteArray.size_extract]; omega
  rw [e] at h
  exact h.congr (fun j hj => bt_extract t 1 t.size (Nat.le_refl _) j hj)
set_option maxHeartbeats 1000000 in
set_option maxRecDepth 1000000 in
theorem snum (s : ByteArray) (w : World) (hs : Asc s) :
    Calls Tryz.prog 5 #[.string s] w fun e w' => ∃ r b, e = .returned (.tuple #[.float .f64 r, .bool b]) ∧ Below w.heap.size w w' ∧ (b = true → Says (trim s) r) := by
  go_enter Tryz.func5, Tryz.ntmps5
  go_upto_block 0 with (fail)
  go_cut [0] (fun v0 wc => v0 = .string (trimL s.size s) ∧ Aside0 (Below w.heap.size w wc))
  case first =>
    go_wp2
    go_loopg [0] s.size (fun kq v0 w' => ∃ x, v0 = .string x ∧ Aside0 (Asc x) ∧ Aside0 (trimL kq x = trimL s.size s) ∧ Aside0 (x.size ≤ kq) ∧ Aside0 (Below w.heap.size w w'))
    case atStart => exact ⟨s, rfl, ⟨hs⟩, ⟨rfl⟩, ⟨Nat.le_refl _⟩, ⟨by repeat (first | exact Below.refl _ _ | apply pw_below_drewN)⟩⟩
    case round =>
      obtain ⟨x, rfl, hx, ht, hsz, hb⟩ := hrel
      by_cases hz : x.size = 0
      · have hxt : Aside0 (x = trimL s.size s) := ⟨by rw [← ht.out]; exact (trimL_empty _ _ hz).symm⟩
        have hem := empty_yes (s := x) (by omega)
        have hem2 : x.toList.isEmpty = true := by rw [List.isEmpty_iff, nil_iff]; exact hz
        clear hz
        go_wp2_with (go_at_call 10; refine (space_calls _ _).mono ?_; rintro e w1 ⟨rfl, ⟨nd, rfl⟩⟩)
        go_meet
        case rel => exact ⟨by rw [hxt.out], ⟨by repeat (first | exact hb.out | apply pw_below_drewN)⟩⟩
      · cases gk with
        | zero => exact absurd hsz.out (by omega)
        | succ k =>
          have hem := empty_no (s := x) (by omega)
          have hem2 : x.toList.isEmpty = false := toList_some (by omega)
          have hb0 : ∀ h : 0 < x.size, ((x[0]'h).toNat : Int) = bt x 0 := fun h => bt_at x 0 h
          have z0 : (0 < x.size) = True := eq_true (by omega)
          have z1 : ((1 : Int) ≤ (x.size : Int)) = True := eq_true (by omega)
          have ht1 := ht.out
          by_cases hsp : spc (bt x 0) = true
          · rw [trimL_go k x hz hsp] at ht1
            replace ht1 := Aside0.mk ht1
            have hle : Aside0 ((x.extract 1 x.size).size ≤ k) := ⟨by have := hsz.out; rw [ByteArray.size_extract]; omega⟩
            clear hz
            go_wp2_with (go_at_call 10; refine (space_calls _ _).mono ?_; rintro e w1 ⟨rfl, ⟨nd, rfl⟩⟩)
            go_roundg k
            case measure => exact Nat.lt_succ_self _
            case rel => exact ⟨_, rfl, ⟨hx.out.extract 1 x.size (Nat.le_refl _)⟩, ht1, hle, ⟨by repeat (first | exact hb.out | apply pw_below_drewN)⟩⟩
          · rw [trimL_stop k x hz hsp] at ht1
            have hsp2 : spc (bt x 0) = false := Bool.eq_false_iff.2 hsp
            have hxt : Aside0 (x = trimL s.size s) := ⟨ht1⟩
            clear hz ht1 hsp
            go_wp2_with (go_at_call 10; refine (space_calls _ _).mono ?_; rintro e w1 ⟨rfl, ⟨nd, rfl⟩⟩)
            go_meet
            case rel => exact ⟨by rw [hxt.out], ⟨by repeat (first | exact hb.out | apply pw_below_drewN)⟩⟩
  case rest =>
    obtain ⟨rfl, hB⟩ := hcut
    have hs1 : Aside0 (Asc (trimL s.size s)) := ⟨trimL_asc _ _ hs⟩
    obtain ⟨y, hy⟩ : ∃ y, y = trimL s.size s := ⟨_, rfl⟩
    rw [← hy] at hs1 ⊢
    have htr : Aside0 (trimR y.size y = trim s) := ⟨by rw [hy]; rfl⟩
    clear hy
    go_upto_block 2 with (fail)
    go_cut [0] (fun v0 wc => v0 = .string (trim s) ∧ Aside0 (Below w.heap.size w wc))
    case first =>
      go_wp2
      go_loopg [0] y.size (fun kq v0 w' => ∃ x, v0 = .string x ∧ Aside0 (Asc x) ∧ Aside0 (trimR kq x = trim s) ∧ Aside0 (x.size ≤ kq) ∧ Aside0 (Below w.heap.size w w'))
      case atStart => exact ⟨y, rfl, hs1, htr, ⟨Nat.le_refl _⟩, ⟨by repeat (first | exact hB.out | apply pw_below_drewN)⟩⟩
      case round =>
        obtain ⟨x, rfl, hx, ht, hsz, hb⟩ := hrel
        by_cases hz : x.size = 0
        · have hxt : Aside0 (x = trim s) := ⟨by rw [← ht.out]; exact (trimR_empty _ _ hz).symm⟩
          have hem := empty_yes (s := x) (by omega)
          have hem2 : x.toList.isEmpty = true := by rw [List.isEmpty_iff, nil_iff]; exact hz
          clear hz
          go_wp2_with (go_at_call 10; refine (space_calls _ _).mono ?_; rintro e w1 ⟨rfl, ⟨nd, rfl⟩⟩)
          go_meet
          case rel => exact ⟨by rw [hxt.out], ⟨by repeat (first | exact hb.out | apply pw_below_drewN)⟩⟩
        · cases gk with
          | zero => exact absurd hsz.out (by omega)
          | succ k =>
            have hx5 := hx.out.1
            have hem := empty_no (s := x) (by omega)
            have hem2 : x.toList.isEmpty = false := toList_some (by omega)
            have hbl : ∀ h : x.size - 1 < x.size, ((x[x.size - 1]'h).toNat : Int) = bt x ((x.size : Int) - 1) := fun h => by
              have h2 : ((x[x.size - 1]'h).toNat : Int) = bt x ((x.size - 1 : Nat) : Int) := bt_at x ((x.size - 1 : Nat) : Int) h
              rw [h2, show ((x.size - 1 : Nat) : Int) = (x.size : Int) - 1 from by omega]
            have z0 : (0 < x.size) = True := eq_true (by omega)
            have z1 : ((0 : Int) ≤ (x.size : Int) - 1) = True := eq_true (by omega)
            have z2 : ((x.size : Int) - 1 < (x.size : Int)) = True := eq_true (by omega)
            have z3 : ((1 : Int) ≤ (x.size : Int)) = True := eq_true (by omega)
            have z4 : ((x.size : Int) - 1 ≤ (x.size : Int)) = True := eq_true (by omega)
            have ztn : ((x.size : Int) - 1).toNat = x.size - 1 := by omega
            have ht1 := ht.out
            by_cases hsp : spc (bt x ((x.size : Int) - 1)) = true
            · rw [trimR_go k x hz hsp] at ht1
              replace ht1 := Aside0.mk ht1
              have hle : Aside0 ((x.extract 0 (x.size - 1)).size ≤ k) := ⟨by have := hsz.out; rw [ByteArray.size_extract]; omega⟩
              have hae : Aside0 (Asc (x.extract 0 (x.size - 1))) := ⟨hx.out.extract 0 (x.size - 1) (by omega)⟩
              have hw := w64 ((x.size : Int) - 1) (by omega) (by omega)
              clear hz
              go_wp2_with (go_at_call 10; refine (space_calls _ _).mono ?_; rintro e w1 ⟨rfl, ⟨nd, rfl⟩⟩)
              go_roundg k
              case measure => exact Nat.lt_succ_self _
              case rel => exact ⟨_, rfl, hae, ht1, hle, ⟨by repeat (first | exact hb.out | apply pw_below_drewN)⟩⟩
            · rw [trimR_stop k x hz hsp] at ht1
              have hsp2 : spc (bt x ((x.size : Int) - 1)) = false := Bool.eq_false_iff.2 hsp
              have hxt : Aside0 (x = trim s) := ⟨ht1⟩
              have hw := w64 ((x.size : Int) - 1) (by omega) (by omega)
              clear hz ht1 hsp
              go_wp2_with (go_at_call 10; refine (space_calls _ _).mono ?_; rintro e w1 ⟨rfl, ⟨nd, rfl⟩⟩)
              go_meet
              case rel => exact ⟨by rw [hxt.out], ⟨by repeat (first | exact hb.out | apply pw_below_drewN)⟩⟩
    case rest =>
      obtain ⟨rfl, hB2⟩ := hcut
      clear hs1 htr hB
      have hta : Aside0 (Asc (trim s)) := ⟨trim_asc s hs⟩
      clear hs
      obtain ⟨t, ht⟩ : ∃ t, trim s = t := ⟨_, rfl⟩
      rw [ht] at hta ⊢
      replace ht := Aside0.mk ht
      by_cases hz : t.size = 0
      · have hem := empty_yes (s := t) (by omega)
        have hem2 : t.toList.isEmpty = true := by rw [List.isEmpty_iff, nil_iff]; exact hz
        replace hz := Aside0.mk hz
        go_wp2
        go_ret2
        exact ⟨_, _, rfl, hB2.out, fun _ => by rw [ht.out]; exact .empty hz.out rfl⟩
      · have hem := empty_no (s := t) (by omega)
        have hem2 : t.toList.isEmpty = false := toList_some (by omega)
        obtain ⟨HX, hHX⟩ : ∃ HX, decide (2 < t.size ∧ bt t 0 = 48 ∧ (bt t 1 = 120 ∨ bt t 1 = 88)) = HX := ⟨_, rfl⟩
        replace hHX := Aside0.mk hHX
        replace hz := Aside0.mk hz
        go_upto_region 7 with (fail)
        go_cut [49] (fun v49 wc => v49 = .bool HX ∧ Aside0 (Below w.heap.size w wc))
        case first =>
          by_cases h2 : 2 < t.size
          · have hb0 : ∀ h : 0 < t.size, ((t[0]'h).toNat : Int) = bt t 0 := fun h => bt_at t 0 h
            have hb1 : ∀ h : 1 < t.size, ((t[1]'h).toNat : Int) = bt t 1 := fun h => bt_at t 1 h
            have z0 : (0 < t.size) = True := eq_true (by omega)
            have z1 : (1 < t.size) = True := eq_true (by omega)
            have z0i : (0 < (t.size : Int)) = True := eq_true (by omega)
            have z1i : (1 < (t.size : Int)) = True := eq_true (by omega)
            have z2 : (2 < t.size) = True := eq_true h2
            have z2d : decide ((2 : Int) < (t.size : Int)) = true := decide_eq_true (by omega)
            have z2e : decide (2 < t.size) = true := decide_eq_true h2
            by_cases h48 : bt t 0 = 48
            · have b48 : (bt t 0 == 48) = true := beq_iff_eq.2 h48
              by_cases hx : bt t 1 = 120
              · have bx : (bt t 1 == 120) = true := beq_iff_eq.2 hx
                have hv : Aside0 (HX = true) := ⟨by rw [← hHX.out]; exact decide_eq_true ⟨h2, h48, .inl hx⟩⟩
                clear h2 h48 hx
                go_wp2
                go_meet
                case rel => exact ⟨by rw [hv.out], ⟨by repeat (first | exact hB2.out | apply pw_below_drewN)⟩⟩
              · have bx : (bt t 1 == 120) = false := beq_eq_false_iff_ne.2 hx
                by_cases hX : bt t 1 = 88
                · have bX : (bt t 1 == 88) = true := beq_iff_eq.2 hX
                  have hv : Aside0 (HX = true) := ⟨by rw [← hHX.out]; exact decide_eq_true ⟨h2, h48, .inr hX⟩⟩
                  clear h2 h48 hx hX
                  go_wp2
                  go_meet
                  case rel => exact ⟨by rw [hv.out], ⟨by repeat (first | exact hB2.out | apply pw_below_drewN)⟩⟩
                · have bX : (bt t 1 == 88) = false := beq_eq_false_iff_ne.2 hX
                  have hv : Aside0 (HX = false) := ⟨by rw [← hHX.out]; exact decide_eq_false (fun h => h.2.2.elim hx hX)⟩
                  clear h2 h48 hx hX
                  go_wp2
                  go_meet
                  case rel => exact ⟨by rw [hv.out], ⟨by repeat (first | exact hB2.out | apply pw_below_drewN)⟩⟩
            · have b48 : (bt t 0 == 48) = false := beq_eq_false_iff_ne.2 h48
              have hv : Aside0 (HX = false) := ⟨by rw [← hHX.out]; exact decide_eq_false (fun h => h48 h.2.1)⟩
              clear h2 h48
              go_wp2
              go_meet
              case rel => exact ⟨by rw [hv.out], ⟨by repeat (first | exact hB2.out | apply pw_below_drewN)⟩⟩
          · have z2 : (2 < t.size) = False := eq_false h2
            have z2d : decide ((2 : Int) < (t.size : Int)) = false := decide_eq_false (by omega)
            have z2e : decide (2 < t.size) = false := decide_eq_false h2
            have hv : Aside0 (HX = false) := ⟨by rw [← hHX.out]; exact decide_eq_false (fun h => h2 h.1)⟩
            clear h2
            go_wp2
            go_meet
            case rel => exact ⟨by rw [hv.out], ⟨by repeat (first | exact hB2.out | apply pw_below_drewN)⟩⟩
        case rest =>
          obtain ⟨rfl, hB3⟩ := hcut
          clear hB2
          cases HX
          · have hc := of_decide_eq_false hHX.out
            replace hc := Aside0.mk hc
            have hz1 := hz.out
            have h5 := hta.out.1
            have hb0 : ∀ h : 0 < t.size, ((t[0]'h).toNat : Int) = bt t 0 := fun h => bt_at t 0 h
            have z0 : (0 < t.size) = True := eq_true (by omega)
            have z0i : (0 < (t.size : Int)) = True := eq_true (by omega)
            have z1i : ((1 : Int) ≤ (t.size : Int)) = True := eq_true (by omega)
            clear h5 hz1
            have hinf : ∀ W, Calls Tryz.prog 12 #[.int .i64 1] W fun e w' => e = .returned (.float .f64 9218868437227405312) ∧ Drawn0 W w' := fun W => math_Inf.calls 1 _ W rfl
            replace hinf := Aside0.mk hinf
            by_cases h43 : bt t 0 = 43
            · have b45 : (bt t 0 == 45) = false := beq_eq_false_iff_ne.2 (by omega)
              have b43 : (bt t 0 == 43) = true := beq_iff_eq.2 h43
              replace h43 := Aside0.mk h43
              by_cases hI : t.extract 1 t.size = infB
              · have hIe := inf_yes hI
                have hfl := fun W_ => run_float_arith (P := Tryz.prog) W_ .mul 23 .f64 4607182418800017408 9218868437227405312 9218868437227405312 (by decide +kernel)
                replace hI := Aside0.mk hI
                go_wp2_with (go_at_call 12; refine (hinf.out _).mono ?_; rintro e w1 ⟨rfl, ⟨nd, rfl⟩⟩)
                go_ret2
                exact ⟨_, _, rfl, by repeat (first | exact hB3.out | apply pw_below_drewN | apply below_drew1), fun _ => by rw [ht.out]; exact .infinity 1 false (Nat.pos_of_ne_zero hz.out) (.inr (.inl ⟨rfl, rfl, h43.out⟩)) (hI.out) (by rw [word_eq]; decide)⟩
              · have hIe := inf_no hI
                clear hI
                obtain ⟨v, b, ⟨g, hg⟩, hsh⟩ := frac (t.extract 1 t.size) (by rw [ByteArray.size_extract]; have := hta.out.1; omega)
                replace hsh := Aside0.mk hsh
                cases hm : floatBits .mul .f64 4607182418800017408 v with
                | none =>
                  have hfl := run_mul_none 4607182418800017408 v hm
                  replace hm := Aside0.mk hm
                  go_wp2_with (go_at_call 13; refine (spec_fraction.calls g _ v b _ hg).mono ?_; rintro e w1 ⟨rfl, ⟨nd, rfl⟩⟩)
                  go_ret2
                  exact ⟨_, _, rfl, by repeat (first | exact hB3.out | apply pw_below_drewN | apply below_drew1), fun h => by rw [ht.out]; exact .frac 1 _ false v (Nat.pos_of_ne_zero hz.out) (.inr (.inl ⟨rfl, rfl, h43.out⟩)) (Nat.add_sub_cancel' (Nat.pos_of_ne_zero hz.out)) hc.out (shape_tail (Nat.pos_of_ne_zero hz.out) (hsh.out h)) (.inr ⟨by rw [one_word_false]; exact hm.out, nanOf_is _ _ _⟩)⟩
                | some r =>
                  have hfl := fun W_ => run_float_arith (P := Tryz.prog) W_ .mul 23 .f64 4607182418800017408 v r hm
                  replace hm := Aside0.mk hm
                  go_wp2_with (go_at_call 13; refine (spec_fraction.calls g _ v b _ hg).mono ?_; rintro e w1 ⟨rfl, ⟨nd, rfl⟩⟩)
                  go_ret2
                  exact ⟨_, _, rfl, by repeat (first | exact hB3.out | apply pw_below_drewN | apply below_drew1), fun h => by rw [ht.out]; exact .frac 1 _ false v (Nat.pos_of_ne_zero hz.out) (.inr (.inl ⟨rfl, rfl, h43.out⟩)) (Nat.add_sub_cancel' (Nat.pos_of_ne_zero hz.out)) hc.out (shape_tail (Nat.pos_of_ne_zero hz.out) (hsh.out h)) (.inl (by rw [one_word_false]; exact hm.out))⟩
            · by_cases h45 : bt t 0 = 45
              · have b45 : (bt t 0 == 45) = true := beq_iff_eq.2 h45
                have b43 : (bt t 0 == 43) = false := beq_eq_false_iff_ne.2 h43
                replace h45 := Aside0.mk h45
                by_cases hI : t.extract 1 t.size = infB
                · have hIe := inf_yes hI
                  have hfl := fun W_ => run_float_arith (P := Tryz.prog) W_ .mul 23 .f64 13830554455654793216 9218868437227405312 18442240474082181120 (by decide +kernel)
                  replace hI := Aside0.mk hI
                  go_wp2_with (go_at_call 12; refine (hinf.out _).mono ?_; rintro e w1 ⟨rfl, ⟨nd, rfl⟩⟩)
                  go_ret2
                  exact ⟨_, _, rfl, by repeat (first | exact hB3.out | apply pw_below_drewN | apply below_drew1), fun _ => by rw [ht.out]; exact .infinity 1 true (Nat.pos_of_ne_zero hz.out) (.inr (.inr ⟨rfl, rfl, h45.out⟩)) (hI.out) (by rw [word_eq]; decide)⟩
                · have hIe := inf_no hI
                  clear hI
                  obtain ⟨v, b, ⟨g, hg⟩, hsh⟩ := frac (t.extract 1 t.size) (by rw [ByteArray.size_extract]; have := hta.out.1; omega)
                  replace hsh := Aside0.mk hsh
                  cases hm : floatBits .mul .f64 13830554455654793216 v with
                  | none =>
                    have hfl := run_mul_none 13830554455654793216 v hm
                    replace hm := Aside0.mk hm
                    go_wp2_with (go_at_call 13; refine (spec_fraction.calls g _ v b _ hg).mono ?_; rintro e w1 ⟨rfl, ⟨nd, rfl⟩⟩)
                    go_ret2
                    exact ⟨_, _, rfl, by repeat (first | exact hB3.out | apply pw_below_drewN | apply below_drew1), fun h => by rw [ht.out]; exact .frac 1 _ true v (Nat.pos_of_ne_zero hz.out) (.inr (.inr ⟨rfl, rfl, h45.out⟩)) (Nat.add_sub_cancel' (Nat.pos_of_ne_zero hz.out)) hc.out (shape_tail (Nat.pos_of_ne_zero hz.out) (hsh.out h)) (.inr ⟨by rw [one_word_true]; exact hm.out, nanOf_is _ _ _⟩)⟩
                  | some r =>
                    have hfl := fun W_ => run_float_arith (P := Tryz.prog) W_ .mul 23 .f64 13830554455654793216 v r hm
                    replace hm := Aside0.mk hm
                    go_wp2_with (go_at_call 13; refine (spec_fraction.calls g _ v b _ hg).mono ?_; rintro e w1 ⟨rfl, ⟨nd, rfl⟩⟩)
                    go_ret2
                    exact ⟨_, _, rfl, by repeat (first | exact hB3.out | apply pw_below_drewN | apply below_drew1), fun h => by rw [ht.out]; exact .frac 1 _ true v (Nat.pos_of_ne_zero hz.out) (.inr (.inr ⟨rfl, rfl, h45.out⟩)) (Nat.add_sub_cancel' (Nat.pos_of_ne_zero hz.out)) hc.out (shape_tail (Nat.pos_of_ne_zero hz.out) (hsh.out h)) (.inl (by rw [one_word_true]; exact hm.out))⟩
              · have b45 : (bt t 0 == 45) = false := beq_eq_false_iff_ne.2 h45
                have b43 : (bt t 0 == 43) = false := beq_eq_false_iff_ne.2 h43
                replace h43 := Aside0.mk h43
                replace h45 := Aside0.mk h45
                by_cases hI : t = infB
                · have hIe := inf_yes hI
                  have hfl := fun W_ => run_float_arith (P := Tryz.prog) W_ .mul 23 .f64 4607182418800017408 9218868437227405312 9218868437227405312 (by decide +kernel)
                  replace hI := Aside0.mk hI
                  go_wp2_with (go_at_call 12; refine (hinf.out _).mono ?_; rintro e w1 ⟨rfl, ⟨nd, rfl⟩⟩)
                  go_ret2
                  exact ⟨_, _, rfl, by repeat (first | exact hB3.out | apply pw_below_drewN | apply below_drew1), fun _ => by rw [ht.out]; exact .infinity 0 false (Nat.pos_of_ne_zero hz.out) (.inl ⟨rfl, rfl, h43.out, h45.out⟩) (ext_all hI.out) (by rw [word_eq]; decide)⟩
                · have hIe := inf_no hI
                  clear hI
                  obtain ⟨v, b, ⟨g, hg⟩, hsh⟩ := frac (t) (hta.out.1)
                  replace hsh := Aside0.mk hsh
                  cases hm : floatBits .mul .f64 4607182418800017408 v with
                  | none =>
                    have hfl := run_mul_none 4607182418800017408 v hm
                    replace hm := Aside0.mk hm
                    go_wp2_with (go_at_call 13; refine (spec_fraction.calls g _ v b _ hg).mono ?_; rintro e w1 ⟨rfl, ⟨nd, rfl⟩⟩)
                    go_ret2
                    exact ⟨_, _, rfl, by repeat (first | exact hB3.out | apply pw_below_drewN | apply below_drew1), fun h => by rw [ht.out]; exact .frac 0 _ false v (Nat.pos_of_ne_zero hz.out) (.inl ⟨rfl, rfl, h43.out, h45.out⟩) (Nat.zero_add _) hc.out (shape_all (hsh.out h)) (.inr ⟨by rw [one_word_false]; exact hm.out, nanOf_is _ _ _⟩)⟩
                  | some r =>
                    have hfl := fun W_ => run_float_arith (P := Tryz.prog) W_ .mul 23 .f64 4607182418800017408 v r hm
                    replace hm := Aside0.mk hm
                    go_wp2_with (go_at_call 13; refine (spec_fraction.calls g _ v b _ hg).mono ?_; rintro e w1 ⟨rfl, ⟨nd, rfl⟩⟩)
                    go_ret2
                    exact ⟨_, _, rfl, by repeat (first | exact hB3.out | apply pw_below_drewN | apply below_drew1), fun h => by rw [ht.out]; exact .frac 0 _ false v (Nat.pos_of_ne_zero hz.out) (.inl ⟨rfl, rfl, h43.out, h45.out⟩) (Nat.zero_add _) hc.out (shape_all (hsh.out h)) (.inl (by rw [one_word_false]; exact hm.out))⟩
          · have hc := of_decide_eq_true hHX.out
            have z2 : ((2 : Int) ≤ (t.size : Int)) = True := eq_true (by omega)
            obtain ⟨v, b, ⟨g, hg⟩, hsays⟩ := hexs (t.extract 2 t.size) (by rw [ByteArray.size_extract]; have := hta.out.1; omega)
            replace hc := Aside0.mk hc
            replace hsays := Aside0.mk hsays
            go_wp2_with (go_at_call 11; refine (spec_hexadecimal.calls g _ v b _ hg).mono ?_; rintro e w1 ⟨rfl, ⟨nd, rfl⟩⟩)
            go_ret2
            exact ⟨_, _, rfl, by repeat (first | exact hB3.out | apply pw_below_drewN), fun h => by rw [ht.out]; exact .hex hc.out.1 hc.out.2.1 hc.out.2.2 (hsays.out h)⟩
end Go.Proofs.YtllaepgbpmiglaaGreatDoor
