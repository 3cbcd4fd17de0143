/- parseNumber's answer and the reference's, whole; and what the law does with them. Conditions: as in Answer. -/
import Derived.Test.YtllaepgbpmiglaaGreatDoorAnswer
namespace Go.Proofs.YtllaepgbpmiglaaGreatDoor
open Go.RowKit Go.Proofs.YtllaepgbpmiglaaGreatDoorW.PrintWords Go.Proofs.YtllaepgbpmiglaaGreatDoor.QNum Floats
theorem prefix_inf : Ev (fun g => strconv_commonPrefixLenIgnoreCase.f g infB inf8) 8 :=
  Ev.of (fun g => strconv_commonPrefixLenIgnoreCase.mono infB inf8 g) (k := 40) (by kernel_rfl)
theorem j3_inf (a b : Int) (v : Nat) (hb : 0 ≤ b) (hb2 : b ≤ 1) (hv : strconv_inf.f a = some v) : Ev (fun g => strconv_special.j3 g infB a b) (v, b + 8, true) := by
  have c1 : ((3 : Int) < 8) = True := eq_true (by omega)
  have d1 : decide ((8 : Int) < 8) = false := by decide
  have c2 : ((8 : Int) = 3) = False := eq_false (by omega)
  refine Ev.step (fun g => rfl) ?_
  refine Ev.bind prefix_inf ?_
  simp only [c1, if_true, d1]
  refine Ev.step (fun g => rfl) ?_
  have hw := w64 (b + 8) (by omega) (by omega)
  simp only [strconv_special.j4, Bool.false_eq_true, if_false, c2, if_true, hv, Option.bind_some, hw]
  exact Ev.now _
theorem special_inf (t : ByteArray) (off : Nat) (neg : Bool) (hz : 0 < t.size) (hsg : SignAt t off neg) (h : t.extract off t.size = infB) : ∃ k, strconv_special.f k t = some (D.word neg 9218868437227405312, (t.size : Int), true) := by
  rcases hsg with ⟨rfl, rfl, h43, h45⟩ | ⟨rfl, rfl, h43⟩ | ⟨rfl, rfl, h45⟩
  · rw [ByteArray.extract_zero_size] at h
    rw [h, word_false]
    exact ⟨40, by kernel_rfl⟩
  · have hs : t.size = 9 := by
      have := congrArg ByteArray.size h
      rw [ByteArray.size_extract] at this
      have e : infB.size = 8 := by decide
      omega
    have c1 : ((t.size : Int) = 0) = False := eq_false (by omega)
    have c2 : ((0 : Int) < (t.size : Int)) = True := eq_true (by omega)
    have c3 : ((1 : Int) ≤ (t.size : Int)) = True := eq_true (by omega)
    have b43 : (bt t 0 == 43) = true := beq_iff_eq.2 h43
    have n45 : (bt t 0 = 45) = False := eq_false (by omega)
    have hj := j3_inf 1 1 9218868437227405312 (by omega) (by omega) (by decide)
    rw [word_false, hs]
    have hj0 : Ev (fun g => strconv_special.j0 g t 1 0 (bt t 0) true) (9218868437227405312, ((9 : Nat) : Int), true) := by
      refine Ev.step (fun g => rfl) ?_
      simp only [strconv_special.j0, if_true, c2, c3, n45, if_false, h]
      exact hj
    exact (Ev.congr (fun g => by simp only [strconv_special.f, c1, c2, if_true, if_false, eq_true h43, b43]) hj0).rounds
  · have hs : t.size = 9 := by
      have := congrArg ByteArray.size h
      rw [ByteArray.size_extract] at this
      have e : infB.size = 8 := by decide
      omega
    have c1 : ((t.size : Int) = 0) = False := eq_false (by omega)
    have c2 : ((0 : Int) < (t.size : Int)) = True := eq_true (by omega)
    have c3 : ((1 : Int) ≤ (t.size : Int)) = True := eq_true (by omega)
    have b45 : (bt t 0 == 45) = true := beq_iff_eq.2 h45
    have n43 : (bt t 0 = 43) = False := eq_false (by omega)
    have hj := j3_inf (-1) 1 18442240474082181120 (by omega) (by omega) (by decide)
    have hw : D.word true 9218868437227405312 = 18442240474082181120 := by rw [word_eq, if_pos rfl]
    rw [hw, hs]
    have hj0 : Ev (fun g => strconv_special.j0 g t 1 0 (bt t 0) true) (18442240474082181120, ((9 : Nat) : Int), true) := by
      refine Ev.step (fun g => rfl) ?_
      simp only [strconv_special.j0, if_true, c2, c3, eq_true h45, h]
      exact hj
    exact (Ev.congr (fun g => by simp only [strconv_special.f, c1, c2, if_true, if_false, n43, b45]) hj0).rounds
theorem pn (s : ByteArray) (w : World) (a b pa : Addr) (cap : Nat) (G : Ground w a b pa cap) (hA : Asc s) (r : Nat) (h : Says (trim s) r) : ∃ v, Agree r v ∧ Pn s w v := by
  obtain ⟨k, hz⟩ := zzTrim_ev s hA
  have hT := trim_asc s hA
  obtain ⟨t, ht⟩ : ∃ t, t = trim s := ⟨_, rfl⟩
  rw [← ht] at h hz hT
  cases h with
  | empty h0 hr =>
    refine ⟨0, .inr ⟨hr.symm, false, 0, by omega, by rw [hr, word_false]⟩, pn_empty k s t w hz ?_⟩
    obtain ⟨⟨l⟩⟩ := t
    cases l with
    | nil => rfl
    | cons c l => exact absurd h0 (by intro h; cases h)
  | hex h2 h48 hx h => exact pn_hex G hT hz (by omega) r h2 h48 hx h
  | infinity off neg h0 hs h hr =>
    obtain ⟨ks, hks⟩ := special_inf t off neg h0 hs h
    obtain ⟨B, k2, hh, _⟩ := zzHas_ev t hT.1
    refine ⟨r, .inr ⟨rfl, neg, _, Nat.le_refl _, hr⟩, road_is hz h0 k2 B hh (fun _ hx => ?_) r (is_of r (fun W _ => by rw [hr]; exact reads_special ks t _ _ W hks))⟩
    rcases hs with ⟨rfl, _, _, _⟩ | ⟨_, _, h43⟩ | ⟨_, _, h45⟩
    · rw [ByteArray.extract_zero_size] at h
      have e : bt infB 0 = 73 := by decide
      rw [h, e] at hx
      omega
    · omega
    · omega
  | frac off n neg v h0 hs hn hx h hr => exact pn_frac G hT hz h0 off n neg v r hs hn hx h hr
end Go.Proofs.YtllaepgbpmiglaaGreatDoor
