/- readFloat whole: on a text with the reference's shape of a decimal literal behind its sign; on a text that begins with 0x and holds no number; special at Infinity. Conditions: the text has at most 5000 bytes. -/
import Derived.Test.YtllaepgbpmiglaaGreatDoorSpecial
import Derived.KernelRfl
namespace Go.Proofs.YtllaepgbpmiglaaGreatDoor
open Go.RowKit Go.Proofs.YtllaepgbpmiglaaGreatDoorW.PrintWords Go.Proofs.YtllaepgbpmiglaaGreatDoor.QNum Floats
theorem low_x_fin : ∀ n : Fin 256, low (n.val : Int) = 120 → n.val = 120 ∨ n.val = 88 := by decide +kernel
theorem low_x (c : Int) (h0 : 0 ≤ c) (h1 : c ≤ 255) (h : low c = 120) : c = 120 ∨ c = 88 := by
  have h2 := low_x_fin ⟨c.toNat, by omega⟩
  have e : ((c.toNat : Nat) : Int) = c := by omega
  simp only [e] at h2
  have := h2 h
  omega
theorem low_dig_fin : ∀ n : Fin 256, 48 ≤ n.val → n.val ≤ 57 → low (n.val : Int) ≠ 105 ∧ low (n.val : Int) ≠ 110 := by decide +kernel
theorem low_dig (c : Int) (h0 : 48 ≤ c) (h1 : c ≤ 57) : low c ≠ 105 ∧ low c ≠ 110 := by
  have h2 := low_dig_fin ⟨c.toNat, by omega⟩
  have e : ((c.toNat : Nat) : Int) = c := by omega
  simp only [e] at h2
  exact h2 (by omega) (by omega)
theorem shape_nohex {f : Nat → Int} {n : Nat} {v : Nat} (hf : ∀ j, 0 ≤ f j ∧ f j ≤ 255) (h : Shape f n 0 0 0 0 false v) (h1 : 1 < n) (h48 : f 0 = 48) : low (f 1) ≠ 120 := by
  cases h with
  | done _ _ _ _ _ _ hi hc _ => omega
  | empty _ _ _ _ hi => omega
  | stop _ _ _ _ _ hi hd _ _ _ _ _ => omega
  | point _ _ _ _ _ hi hp _ => omega
  | digit _ _ _ _ _ _ hi hd hc h' =>
    intro hx
    have hx' : f (0 + 1) = 120 ∨ f (0 + 1) = 88 := low_x _ (hf 1).1 (hf 1).2 hx
    cases h' with
    | done _ _ _ _ _ _ hi hc _ => omega
    | stop _ _ _ _ _ hi hd _ _ _ _ hx => exact (hx rfl h48).1 ‹_›
    | point _ _ _ _ _ hi hp _ => omega
    | digit _ _ _ _ _ _ hi hd hc h' => omega
theorem shape_first {f : Nat → Int} {n : Nat} {v : Nat} (h : Shape f n 0 0 0 0 false v) (h1 : 0 < n) : low (f 0) ≠ 105 ∧ low (f 0) ≠ 110 := by
  cases h with
  | done _ _ _ _ _ _ hi hc _ => omega
  | empty _ _ _ _ hi => omega
  | stop _ _ _ _ _ hi hd _ _ _ hs _ => exact hs rfl
  | point _ _ _ _ _ hi hp _ => rw [hp]; decide
  | digit _ _ _ _ _ _ hi hd hc h' => exact low_dig _ hd.1 hd.2
theorem rf_j0 (t : ByteArray) (neg : Bool) (off : Nat) (hs : t.size ≤ 5000) (hx : off + 1 < t.size → bt t (off : Int) = 48 → low (bt t ((off + 1 : Nat) : Int)) ≠ 120) (r : Int × Int × Bool × Bool × Bool × Int × Bool)
    (ho : off ≤ t.size) (h : Ev (fun g => strconv_readFloat.l0 g t 0 0 neg false false (off : Int) false false 10 19 101 false false 0 0 0) r) : Ev (fun g => strconv_readFloat.j0 g t 0 0 neg false false (off : Int) false false) r := by
  have hj1 : Ev (fun g => strconv_readFloat.j1 g t 0 0 neg false false (off : Int) false false 10 19 101 false) r := by
    refine Ev.step (fun g => rfl) ?_
    simp only [strconv_readFloat.j1, Bool.false_eq_true, if_false]
    refine Ev.step (fun g => rfl) ?_
    simp only [strconv_readFloat.j2]
    exact h
  refine Ev.step (fun g => rfl) ?_
  by_cases h2 : off + 2 < t.size
  · have c2 : ((off : Int) + 2 < (t.size : Int)) = True := eq_true (by omega)
    have c3 : ((0 : Int) ≤ (off : Int)) = True := eq_true (by omega)
    have c4 : ((off : Int) < (t.size : Int)) = True := eq_true (by omega)
    have c5 : ((0 : Int) ≤ (off : Int) + 1) = True := eq_true (by omega)
    have c6 : ((off : Int) + 1 < (t.size : Int)) = True := eq_true (by omega)
    by_cases h48 : bt t (off : Int) = 48
    · have hl := hx (by omega) h48
      rw [show ((off + 1 : Nat) : Int) = (off : Int) + 1 from by omega] at hl
      have hb : (low (bt t ((off : Int) + 1)) == 120) = false := beq_eq_false_iff_ne.2 hl
      unfold low at hb
      have hw1 := w64 ((off : Int) + 1) (by omega) (by omega)
      have hw2 := w64 ((off : Int) + 2) (by omega) (by omega)
      simp only [strconv_readFloat.j0, hw1, hw2, c2, c3, c4, c5, c6, if_true, eq_true h48, strconv_lower.f, Option.bind_some, hb]
      exact hj1
    · have hw2 := w64 ((off : Int) + 2) (by omega) (by omega)
      simp only [strconv_readFloat.j0, hw2, c2, c3, c4, if_true, eq_false h48, if_false]
      exact hj1
  · have c2 : ((off : Int) + 2 < (t.size : Int)) = False := eq_false (by omega)
    have hw2 := w64 ((off : Int) + 2) (by omega) (by omega)
    simp only [strconv_readFloat.j0, hw2, c2, if_false]
    exact hj1
section
variable (t : ByteArray) (hz : 0 < t.size)
include hz
theorem rf_f0 (h43 : bt t 0 ≠ 43) (h45 : bt t 0 ≠ 45) (r : Int × Int × Bool × Bool × Bool × Int × Bool) (h : Ev (fun g => strconv_readFloat.j0 g t 0 0 false false false ((0 : Nat) : Int) false false) r) : Ev (fun g => strconv_readFloat.f g t) r := by
  have c1 : ((0 : Int) ≥ (t.size : Int)) = False := eq_false (by omega)
  have c2 : ((0 : Int) < (t.size : Int)) = True := eq_true (by omega)
  have e : ((0 : Nat) : Int) = 0 := rfl
  rw [e] at h
  refine Ev.congr (fun g => ?_) h
  simp only [strconv_readFloat.f, c1, c2, if_true, if_false, eq_false h43, eq_false h45]
theorem rf_f1 (h43 : bt t 0 = 43) (r : Int × Int × Bool × Bool × Bool × Int × Bool) (h : Ev (fun g => strconv_readFloat.j0 g t 0 0 false false false ((1 : Nat) : Int) false false) r) : Ev (fun g => strconv_readFloat.f g t) r := by
  have c1 : ((0 : Int) ≥ (t.size : Int)) = False := eq_false (by omega)
  have c2 : ((0 : Int) < (t.size : Int)) = True := eq_true (by omega)
  have e : ((1 : Nat) : Int) = 0 + 1 := rfl
  rw [e] at h
  refine Ev.congr (fun g => ?_) h
  simp only [strconv_readFloat.f, c1, c2, if_true, if_false, eq_true h43]
theorem rf_f2 (h45 : bt t 0 = 45) (r : Int × Int × Bool × Bool × Bool × Int × Bool) (h : Ev (fun g => strconv_readFloat.j0 g t 0 0 true false false ((1 : Nat) : Int) false false) r) : Ev (fun g => strconv_readFloat.f g t) r := by
  have c1 : ((0 : Int) ≥ (t.size : Int)) = False := eq_false (by omega)
  have c2 : ((0 : Int) < (t.size : Int)) = True := eq_true (by omega)
  have n43 : (bt t 0 = 43) = False := eq_false (by omega)
  have e : ((1 : Nat) : Int) = 0 + 1 := rfl
  rw [e] at h
  refine Ev.congr (fun g => ?_) h
  simp only [strconv_readFloat.f, c1, c2, if_true, if_false, n43, eq_true h45]
end
theorem rf_top (t : ByteArray) (off n : Nat) (neg : Bool) (v : Nat) (hs : t.size ≤ 5000) (hz : 0 < t.size) (hn : off + n = t.size)
    (hsg : (off = 0 ∧ neg = false ∧ bt t 0 ≠ 43 ∧ bt t 0 ≠ 45) ∨ (off = 1 ∧ neg = false ∧ bt t 0 = 43) ∨ (off = 1 ∧ neg = true ∧ bt t 0 = 45)) (h : Shape (fun j => bt t ((off + j : Nat) : Int)) n 0 0 0 0 false v) :
    ∃ r1 r2 r6 r7, Ev (fun g => strconv_readFloat.f g t) (r1, r2, neg, false, false, r6, r7) ∧ ReadOut t v r1 r2 r6 r7 := by
  have hp0 : (0 : Int) < ((10 ^ 0 : Nat) : Int) := by rw [Nat.pow_zero]; exact Int.one_pos
  obtain ⟨r1, r2, r6, r7, h1, h2⟩ := rf_at t off n neg hs hn h 0 0 (Nat.zero_le _) (Nat.le_refl _) (Nat.zero_le _) (Nat.le_refl _) (Int.le_refl _) hp0 (Int.le_refl _) (Int.le_refl _) (fun _ => rfl) (fun h => absurd h Bool.false_ne_true) (fun _ => ⟨rfl, Int.le_refl _, Int.le_refl _⟩)
  have hd0 : decide (0 < 0) = false := by decide
  simp only [Nat.add_zero, hd0] at h1
  have hsh := shape_nohex (f := fun j => bt t ((off + j : Nat) : Int)) (fun j => bt_range t ((off + j : Nat) : Int)) h
  simp only [Nat.add_zero] at hsh
  have hx : off + 1 < t.size → bt t (off : Int) = 48 → low (bt t ((off + 1 : Nat) : Int)) ≠ 120 := fun ho h48 => hsh (by omega) h48
  have h3 := rf_j0 t neg off hs hx _ (by omega) h1
  refine ⟨r1, r2, r6, r7, ?_, h2⟩
  rcases hsg with ⟨e1, e2, h43, h45⟩ | ⟨e1, e2, h43⟩ | ⟨e1, e2, h45⟩
  · rw [e1, e2] at h3
    rw [e2]
    exact rf_f0 t hz h43 h45 _ h3
  · rw [e1, e2] at h3
    rw [e2]
    exact rf_f1 t hz h43 _ h3
  · rw [e1, e2] at h3
    rw [e2]
    exact rf_f2 t hz h45 _ h3
end Go.Proofs.YtllaepgbpmiglaaGreatDoor
