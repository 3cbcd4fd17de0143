/- readFloat on a text that begins with 0x and whose hexadecimal digits end at a character that is none: no number. Conditions: at most 13 such digits; the character is no underscore, no point, no p. -/
import Derived.Test.YtllaepgbpmiglaaGreatDoorReadTop
namespace Go.Proofs.YtllaepgbpmiglaaGreatDoor
open Go.RowKit Go.Proofs.YtllaepgbpmiglaaGreatDoorW.PrintWords Go.Proofs.YtllaepgbpmiglaaGreatDoor.QNum Floats
abbrev HL (t : ByteArray) (m : Int) (p : Int) (dig : Bool) (nd dp : Int) (g : Nat) := strconv_readFloat.l0 g t m 0 false false true p false false 16 16 112 false dig nd nd dp
theorem rh_j7 (t : ByteArray) (m p nd dp : Int) (dig : Bool) (hp : 0 ≤ p) (hlt : p < t.size) (h112 : low (bt t p) ≠ 112) :
    Ev (fun g => strconv_readFloat.j7 g t m 0 false false true p false false 16 112 false dig nd nd dp) (m, 0, false, false, true, p, false) := by
  refine Ev.step (fun g => rfl) ?_
  cases dig
  · simp only [strconv_readFloat.j7, Bool.false_eq_true, if_false]
    exact Ev.now _
  · simp only [strconv_readFloat.j7, Bool.false_eq_true, if_false, if_true]
    refine Ev.step (fun g => rfl) ?_
    simp only [strconv_readFloat.j8, if_true]
    refine Ev.step (fun g => rfl) ?_
    have hb : (low (bt t p) == 112) = false := beq_eq_false_iff_ne.2 h112
    unfold low at hb
    simp only [strconv_readFloat.j9, hlt, hp, if_true, strconv_lower.f, Option.bind_some, hb]
    refine Ev.step (fun g => rfl) ?_
    simp only [strconv_readFloat.j10, Bool.false_eq_true, if_false, if_true]
    exact Ev.now _
theorem hexl_fin : ∀ n : Fin 256, 97 ≤ low (n.val : Int) → low (n.val : Int) ≤ 102 → 65 ≤ n.val ∧ n.val ≠ 95 := by decide +kernel
theorem hexl_big (c : Int) (h0 : 0 ≤ c) (h1 : c ≤ 255) (h2 : 97 ≤ low c) (h3 : low c ≤ 102) : 65 ≤ c ∧ c ≠ 95 := by
  have h := hexl_fin ⟨c.toNat, by omega⟩
  have e : ((c.toNat : Nat) : Int) = c := by omega
  simp only [e] at h
  have := h h2 h3
  omega
/-- A reading that says 'no number'. -/
def No (g : Nat → Option (Int × Int × Bool × Bool × Bool × Int × Bool)) : Prop := ∃ r1 r2 r6, Ev g (r1, r2, false, false, true, r6, false)
theorem No.step {g f : Nat → Option (Int × Int × Bool × Bool × Bool × Int × Bool)} (h : ∀ k, g (k + 1) = f k) (k : No f) : No g := by
  obtain ⟨r1, r2, r6, k⟩ := k
  exact ⟨r1, r2, r6, Ev.step h k⟩
theorem rh_j6 (t : ByteArray) (m p nd dp : Int) (dig b : Bool) (hb : b = true → nd < 16)
    (h1 : b = true → ∀ m', No (HL t m' (wrap64 (p + 1)) true (wrap64 (nd + 1)) dp)) (h2 : b = false → No (fun g => strconv_readFloat.j7 g t m 0 false false true p false false 16 112 false dig nd nd dp)) :
    No (fun g => strconv_readFloat.j6 g t m 0 false false true p false false 16 16 112 false dig nd nd dp (bt t p) b) := by
  refine No.step (fun g => rfl) ?_
  cases b
  · simp only [strconv_readFloat.j6, Bool.false_eq_true, if_false]
    exact h2 rfl
  · simp only [strconv_readFloat.j6, if_true, eq_true (hb rfl), strconv_lower.f, Option.bind_some]
    exact h1 rfl _
/-- One character that is no digit from 0 to 9, no point and no underscore. -/
theorem rh_letter (t : ByteArray) (m p nd dp : Int) (dig : Bool) (hp : 0 ≤ p) (hlt : p < t.size) (h95 : bt t p ≠ 95) (h46 : bt t p ≠ 46) (hd : ¬ (48 ≤ bt t p ∧ bt t p ≤ 57))
    (h : No (fun g => strconv_readFloat.j6 g t m 0 false false true p false false 16 16 112 false dig nd nd dp (bt t p) (decide (97 ≤ low (bt t p) ∧ low (bt t p) ≤ 102)))) : No (HL t m p dig nd dp) := by
  have b95 : (bt t p == 95) = false := beq_eq_false_iff_ne.2 h95
  have b46 : (bt t p == 46) = false := beq_eq_false_iff_ne.2 h46
  have t1 : (true == false) = false := rfl
  obtain ⟨l, hl⟩ : ∃ l, Go.bits .or .u8 (bt t p) 32 = l := ⟨_, rfl⟩
  unfold low at h
  rw [hl] at h
  obtain ⟨B, hB⟩ : ∃ B, decide (97 ≤ l ∧ l ≤ 102) = B := ⟨_, rfl⟩
  rw [hB] at h
  have hj4 : No (fun g => strconv_readFloat.j4 g t m 0 false false true p false false 16 16 112 false dig nd nd dp (bt t p) false) := by
    refine No.step (fun g => rfl) ?_
    by_cases h97 : 97 ≤ l
    · have e : (true == decide (l ≤ 102)) = B := by
        rw [← hB]
        by_cases h102 : l ≤ 102
        · rw [decide_eq_true h102, decide_eq_true ⟨h97, h102⟩]; rfl
        · rw [decide_eq_false h102, decide_eq_false (fun h => h102 h.2)]; rfl
      simp only [strconv_readFloat.j4, Bool.false_eq_true, if_false, if_true, strconv_lower.f, Option.bind_some, hl, eq_true h97, e]
      exact h
    · have e : B = false := by rw [← hB]; exact decide_eq_false (fun h => h97 h.1)
      rw [e] at h
      simp only [strconv_readFloat.j4, Bool.false_eq_true, if_false, if_true, strconv_lower.f, Option.bind_some, hl, eq_false h97, t1]
      exact h
  refine No.step (fun g => rfl) ?_
  by_cases h48 : 48 ≤ bt t p
  · have d57 : decide (bt t p ≤ 57) = false := decide_eq_false (by omega)
    simp only [strconv_readFloat.l0, hlt, hp, if_true, b95, b46, t1, Bool.false_eq_true, if_false, h48, d57]
    exact hj4
  · simp only [strconv_readFloat.l0, hlt, hp, if_true, b95, b46, t1, Bool.false_eq_true, if_false, h48]
    exact hj4
theorem rh_digit (t : ByteArray) (m p nd dp : Int) (dig : Bool) (hp : 0 ≤ p) (hlt : p < t.size) (hd : 48 ≤ bt t p ∧ bt t p ≤ 57) (hn : nd < 16)
    (h0 : ∀ m' dp', No (HL t m' (wrap64 (p + 1)) true nd dp')) (h1 : ∀ m', No (HL t m' (wrap64 (p + 1)) true (wrap64 (nd + 1)) dp)) : No (HL t m p dig nd dp) := by
  have b95 : (bt t p == 95) = false := beq_eq_false_iff_ne.2 (by omega)
  have b46 : (bt t p == 46) = false := beq_eq_false_iff_ne.2 (by omega)
  have d57 : decide (bt t p ≤ 57) = true := decide_eq_true hd.2
  have h48 : (48 ≤ bt t p) = True := eq_true hd.1
  have t1 : (true == false) = false := rfl
  have t2 : (true == true) = true := rfl
  have hj5 : ∀ b, No (fun g => strconv_readFloat.j5 g t m 0 false false true p false false 16 16 112 false true nd nd dp (bt t p) b) := fun b => by
    refine No.step (fun g => rfl) ?_
    cases b
    · simp only [strconv_readFloat.j5, Bool.false_eq_true, if_false, eq_true hn, if_true]
      exact h1 _
    · simp only [strconv_readFloat.j5, if_true]
      exact h0 _ _
  refine No.step (fun g => rfl) ?_
  simp only [strconv_readFloat.l0, hlt, hp, if_true, b95, b46, t1, Bool.false_eq_true, if_false, h48, d57, t2]
  refine No.step (fun g => rfl) ?_
  by_cases hz : bt t p = 48
  · simp only [strconv_readFloat.j4, if_true, eq_true hz]
    exact hj5 _
  · simp only [strconv_readFloat.j4, if_true, if_false, eq_false hz]
    exact hj5 _
theorem rh_run (t : ByteArray) (e : Nat) (hs : t.size ≤ 5000) (he : 2 + e < t.size) (h13 : e ≤ 13) (hd : ∀ j : Nat, j < e → 0 ≤ hexd (bt t ((2 + j : Nat) : Int))) (hb : hexd (bt t ((2 + e : Nat) : Int)) = -1) (h95 : bt t ((2 + e : Nat) : Int) ≠ 95)
    (h46 : bt t ((2 + e : Nat) : Int) ≠ 46) (h112 : low (bt t ((2 + e : Nat) : Int)) ≠ 112) :
    ∀ (d i : Nat) (m : Int) (dig : Bool) (nd dp : Int), i + d = e → 0 ≤ nd → nd ≤ i → No (HL t m ((2 + i : Nat) : Int) dig nd dp)
  | 0, i, m, dig, nd, dp, hi, _, _ => by
    obtain rfl : i = e := by omega
    have hbb : ¬ (48 ≤ bt t ((2 + i : Nat) : Int) ∧ bt t ((2 + i : Nat) : Int) ≤ 57) ∧ ¬ (97 ≤ low (bt t ((2 + i : Nat) : Int)) ∧ low (bt t ((2 + i : Nat) : Int)) ≤ 102) := by
      unfold hexd at hb
      by_cases h9 : 48 ≤ bt t ((2 + i : Nat) : Int) ∧ bt t ((2 + i : Nat) : Int) ≤ 57
      · rw [if_pos h9] at hb; omega
      · refine ⟨h9, fun hl => ?_⟩
        rw [if_neg h9, if_pos hl] at hb
        omega
    refine rh_letter t m _ nd dp dig (by omega) (by omega) h95 h46 hbb.1 ?_
    rw [decide_eq_false hbb.2]
    exact rh_j6 t m _ nd dp dig false (fun h => absurd h Bool.false_ne_true) (fun h => absurd h Bool.false_ne_true) (fun _ => ⟨_, _, _, rh_j7 t m _ nd dp dig (by omega) (by omega) h112⟩)
  | d + 1, i, m, dig, nd, dp, hi, hn0, hn1 => by
    have hdi := hd i (by omega)
    have hr := bt_range t ((2 + i : Nat) : Int)
    have hw : Aside0 (wrap64 (((2 + i : Nat) : Int) + 1) = ((2 + (i + 1) : Nat) : Int)) := ⟨(w64 _ (by omega) (by omega)).trans (by omega)⟩
    have hw2 : Aside0 (wrap64 (nd + 1) = nd + 1) := ⟨w64 _ (by omega) (by omega)⟩
    by_cases h9 : 48 ≤ bt t ((2 + i : Nat) : Int) ∧ bt t ((2 + i : Nat) : Int) ≤ 57
    · refine rh_digit t m _ nd dp dig (by omega) (by omega) h9 (by omega) (fun m' dp' => ?_) (fun m' => ?_)
      · rw [hw.out]
        exact rh_run t e hs he h13 hd hb h95 h46 h112 d (i + 1) m' true nd dp' (by omega) hn0 (by omega)
      · rw [hw.out, hw2.out]
        exact rh_run t e hs he h13 hd hb h95 h46 h112 d (i + 1) m' true (nd + 1) dp (by omega) (by omega) (by omega)
    · have hl : 97 ≤ low (bt t ((2 + i : Nat) : Int)) ∧ low (bt t ((2 + i : Nat) : Int)) ≤ 102 := by
        unfold hexd at hdi
        rw [if_neg h9] at hdi
        by_cases hl : 97 ≤ low (bt t ((2 + i : Nat) : Int)) ∧ low (bt t ((2 + i : Nat) : Int)) ≤ 102
        · exact hl
        · rw [if_neg hl] at hdi
          omega
      have hbig := hexl_big _ hr.1 hr.2 hl.1 hl.2
      refine rh_letter t m _ nd dp dig (by omega) (by omega) hbig.2 (by omega) h9 ?_
      rw [decide_eq_true hl]
      refine rh_j6 t m _ nd dp dig true (fun _ => by omega) (fun _ m' => ?_) (fun h => absurd h (by decide))
      rw [hw.out, hw2.out]
      exact rh_run t e hs he h13 hd hb h95 h46 h112 d (i + 1) m' true (nd + 1) dp (by omega) (by omega) (by omega)
theorem hexl_no (t : ByteArray) (e : Nat) (hs : t.size ≤ 5000) (h0 : bt t 0 = 48) (h1 : low (bt t 1) = 120) (he : 2 + e < t.size) (h13 : e ≤ 13) (hd : ∀ j : Nat, j < e → 0 ≤ hexd (bt t ((2 + j : Nat) : Int))) (hb : hexd (bt t ((2 + e : Nat) : Int)) = -1)
    (h95 : bt t ((2 + e : Nat) : Int) ≠ 95) (h46 : bt t ((2 + e : Nat) : Int) ≠ 46) (h112 : low (bt t ((2 + e : Nat) : Int)) ≠ 112) : No (fun g => strconv_readFloat.f g t) := by
  have hl := rh_run t e hs he h13 hd hb h95 h46 h112 e 0 0 false 0 0 (by omega) (Int.le_refl _) (Int.le_refl _)
  have hj1 : No (fun g => strconv_readFloat.j1 g t 0 0 false false false 0 false false 10 19 101 true) := by
    have hw : wrap64 ((0 : Int) + 2) = ((2 + 0 : Nat) : Int) := w64 _ (by omega) (by omega)
    refine No.step (fun g => rfl) ?_
    simp only [strconv_readFloat.j1, if_true, hw]
    refine No.step (fun g => rfl) ?_
    simp only [strconv_readFloat.j2]
    exact hl
  have hj0 : No (fun g => strconv_readFloat.j0 g t 0 0 false false false 0 false false) := by
    have hw : wrap64 ((0 : Int) + 2) = 2 := w64 _ (by omega) (by omega)
    have hw1 : wrap64 ((0 : Int) + 1) = 1 := w64 _ (by omega) (by omega)
    have c2 : ((2 : Int) < (t.size : Int)) = True := eq_true (by omega)
    have c3 : ((0 : Int) ≤ 0) = True := eq_true (by omega)
    have c4 : ((0 : Int) < (t.size : Int)) = True := eq_true (by omega)
    have c5 : ((0 : Int) ≤ 1) = True := eq_true (by omega)
    have c6 : ((1 : Int) < (t.size : Int)) = True := eq_true (by omega)
    have hbx : (low (bt t 1) == 120) = true := beq_iff_eq.2 h1
    unfold low at hbx
    refine No.step (fun g => rfl) ?_
    simp only [strconv_readFloat.j0, hw, hw1, c2, c3, c4, c5, c6, if_true, eq_true h0, strconv_lower.f, Option.bind_some, hbx]
    exact hj1
  obtain ⟨r1, r2, r6, h⟩ := hj0
  exact ⟨r1, r2, r6, rf_f0 t (by omega) (by omega) (by omega) _ h⟩
end Go.Proofs.YtllaepgbpmiglaaGreatDoor
