/- What strconv's special makes of a text, and readFloat's beginning: the sign; no hexadecimal prefix. Conditions: the text has at most 5000 bytes. -/
import Derived.Test.YtllaepgbpmiglaaGreatDoorReadF
namespace Go.Proofs.YtllaepgbpmiglaaGreatDoor
open Go.RowKit Go.Proofs.YtllaepgbpmiglaaGreatDoorW.PrintWords Go.Proofs.YtllaepgbpmiglaaGreatDoor.QNum Floats
abbrev inf8 : ByteArray := ⟨#[105, 110, 102, 105, 110, 105, 116, 121]⟩
theorem inf8_size : (inf8.size : Int) = 8 := by decide
theorem inf8_0 : bt inf8 0 = 105 := by decide
theorem low_i : low 105 = 105 := by decide
theorem low_I : low 73 = 105 := by decide
theorem prefix_none (s : ByteArray) (hs : s.size ≤ 5000) (h : s.size = 0 ∨ low (bt s 0) ≠ 105) : Ev (fun g => strconv_commonPrefixLenIgnoreCase.f g s inf8) 0 := by
  have hr := bt_range s 0
  by_cases hz : s.size = 0
  · have hm : mn (inf8.size : Int) (s.size : Int) = 0 := by rw [inf8_size, hz]; decide
    refine Ev.congr (f := fun g => strconv_commonPrefixLenIgnoreCase.l0 g s inf8 0 0) (fun g => by simp only [strconv_commonPrefixLenIgnoreCase.f, hm]) ?_
    have c1 : ((0 : Int) < 0) = False := eq_false (by omega)
    refine Ev.step (fun g => rfl) ?_
    simp only [strconv_commonPrefixLenIgnoreCase.l0, c1, if_false]
    exact Ev.now _
  · have hl : low (bt s 0) ≠ 105 := h.resolve_left hz
    obtain ⟨x, hx⟩ : ∃ x, x = mn (inf8.size : Int) (s.size : Int) := ⟨_, rfl⟩
    have hx1 : 0 < x := by rw [hx, inf8_size]; unfold mn; split <;> omega
    have c1 : ((0 : Int) < x) = True := eq_true hx1
    have c2 : ((0 : Int) < (s.size : Int)) = True := eq_true (by omega)
    have c3 : ((0 : Int) ≤ 0) = True := eq_true (by omega)
    have c4 : ((0 : Int) < (inf8.size : Int)) = True := eq_true (by rw [inf8_size]; omega)
    have n1 : bt s 0 ≠ 105 := fun h => hl (by rw [h]; exact low_i)
    have n2 : bt s 0 ≠ 73 := fun h => hl (by rw [h]; exact low_I)
    have c5 : ((bt s 0 + 32) % 256 = 105) = False := eq_false (by omega)
    have hj : ∀ b, Ev (fun g => strconv_commonPrefixLenIgnoreCase.j1 g s inf8 x 0 (bt s 0) b) 0 := fun b => by
      refine Ev.step (fun g => rfl) ?_
      cases b
      · simp only [strconv_commonPrefixLenIgnoreCase.j1, Bool.false_eq_true, if_false, c3, c4, if_true, inf8_0, eq_false n1]
        exact Ev.now _
      · simp only [strconv_commonPrefixLenIgnoreCase.j1, c3, c4, if_true, inf8_0, c5, if_false]
        exact Ev.now _
    refine Ev.congr (f := fun g => strconv_commonPrefixLenIgnoreCase.l0 g s inf8 x 0) (fun g => by simp only [strconv_commonPrefixLenIgnoreCase.f, hx]) ?_
    refine Ev.step (fun g => rfl) ?_
    by_cases h65 : 65 ≤ bt s 0
    · simp only [strconv_commonPrefixLenIgnoreCase.l0, c1, c2, c3, if_true, eq_true h65]
      exact hj _
    · simp only [strconv_commonPrefixLenIgnoreCase.l0, c1, c2, c3, if_true, eq_false h65, if_false]
      exact hj _
theorem special_j3 (s : ByteArray) (hs : s.size ≤ 5000) (h : s.size = 0 ∨ low (bt s 0) ≠ 105) (a b : Int) : Ev (fun g => strconv_special.j3 g s a b) (0, 0, false) := by
  have c1 : ((3 : Int) < 0) = False := eq_false (by omega)
  have c2 : ((0 : Int) = 3) = False := eq_false (by omega)
  have c3 : ((0 : Int) = 8) = False := eq_false (by omega)
  refine Ev.step (fun g => rfl) ?_
  refine Ev.bind (prefix_none s hs h) ?_
  simp only [c1, if_false]
  refine Ev.step (fun g => rfl) ?_
  simp only [strconv_special.j4, Bool.false_eq_true, if_false, c2, c3]
  exact Ev.now _
theorem special_plain (t : ByteArray) (h : t.size = 0 ∨ (bt t 0 ≠ 43 ∧ bt t 0 ≠ 45 ∧ low (bt t 0) ≠ 105 ∧ low (bt t 0) ≠ 110)) : Ev (fun g => strconv_special.f g t) (0, 0, false) := by
  by_cases hz : t.size = 0
  · have c1 : ((t.size : Int) = 0) = True := eq_true (by omega)
    refine Ev.congr (f := fun _ => some (0, 0, false)) (fun g => by simp only [strconv_special.f, c1, if_true]) (Ev.now _)
  · obtain ⟨h43, h45, hi, hn⟩ := h.resolve_left hz
    have c1 : ((t.size : Int) = 0) = False := eq_false (by omega)
    have c2 : ((0 : Int) < (t.size : Int)) = True := eq_true (by omega)
    have b45 : (bt t 0 == 45) = false := beq_eq_false_iff_ne.2 h45
    have n105 : bt t 0 ≠ 105 := fun h => hi (by rw [h]; decide)
    have n73 : bt t 0 ≠ 73 := fun h => hi (by rw [h]; decide)
    have n110 : bt t 0 ≠ 110 := fun h => hn (by rw [h]; decide)
    have n78 : bt t 0 ≠ 78 := fun h => hn (by rw [h]; decide)
    have b73 : (bt t 0 == 73) = false := beq_eq_false_iff_ne.2 n73
    have b78 : (bt t 0 == 78) = false := beq_eq_false_iff_ne.2 n78
    refine Ev.congr (f := fun g => strconv_special.j0 g t 1 0 (bt t 0) false) (fun g => by simp only [strconv_special.f, c1, c2, if_true, if_false, eq_false h43, b45]) ?_
    refine Ev.step (fun g => rfl) ?_
    simp only [strconv_special.j0, Bool.false_eq_true, if_false, eq_false n105, b73]
    refine Ev.step (fun g => rfl) ?_
    simp only [strconv_special.j1, Bool.false_eq_true, if_false, eq_false n110, b78]
    refine Ev.step (fun g => rfl) ?_
    simp only [strconv_special.j2, Bool.false_eq_true, if_false]
    exact Ev.now _
theorem special_signed (t : ByteArray) (hs : t.size ≤ 5000) (hz : 0 < t.size) (h0 : bt t 0 = 43 ∨ bt t 0 = 45) (h : (t.extract 1 t.size).size = 0 ∨ low (bt (t.extract 1 t.size) 0) ≠ 105) : Ev (fun g => strconv_special.f g t) (0, 0, false) := by
  have hs1 : (t.extract 1 t.size).size ≤ 5000 := by rw [ByteArray.size_extract]; omega
  have c1 : ((t.size : Int) = 0) = False := eq_false (by omega)
  have c2 : ((0 : Int) < (t.size : Int)) = True := eq_true (by omega)
  have c3 : ((1 : Int) ≤ (t.size : Int)) = True := eq_true (by omega)
  have hj : Ev (fun g => strconv_special.j0 g t 1 0 (bt t 0) true) (0, 0, false) := by
    refine Ev.step (fun g => rfl) ?_
    by_cases h45 : bt t 0 = 45
    · simp only [strconv_special.j0, if_true, c2, c3, eq_true h45]
      exact special_j3 _ hs1 h _ _
    · simp only [strconv_special.j0, if_true, c2, c3, eq_false h45, if_false]
      exact special_j3 _ hs1 h _ _
  rcases h0 with h0 | h0
  · have b : (bt t 0 == 43) = true := beq_iff_eq.2 h0
    refine Ev.congr (f := fun g => strconv_special.j0 g t 1 0 (bt t 0) true) (fun g => by simp only [strconv_special.f, c1, c2, if_true, if_false, eq_true h0, b]) hj
  · have b : (bt t 0 == 45) = true := beq_iff_eq.2 h0
    have n43 : (bt t 0 = 43) = False := eq_false (by omega)
    refine Ev.congr (f := fun g => strconv_special.j0 g t 1 0 (bt t 0) true) (fun g => by simp only [strconv_special.f, c1, c2, if_true, if_false, n43, b]) hj
end Go.Proofs.YtllaepgbpmiglaaGreatDoor
