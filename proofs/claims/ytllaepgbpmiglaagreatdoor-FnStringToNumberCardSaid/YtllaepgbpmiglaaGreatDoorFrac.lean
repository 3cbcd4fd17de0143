/- What the reference's reading of a decimal literal comes to: a shape of the text, place by place. Conditions: the text has at most 5000 bytes. -/
import Derived.Test.YtllaepgbpmiglaaGreatDoorQNumx
import Derived.Test.YtllaepgbpmiglaaGreatDoorNums
import Derived.Test.YtllaepgbpmiglaaGreatDoorFloats
namespace Go.Proofs.YtllaepgbpmiglaaGreatDoor
open Go.RowKit Go.Proofs.YtllaepgbpmiglaaGreatDoorW.PrintWords Go.Proofs.YtllaepgbpmiglaaGreatDoor.QNum Floats
/-- NaN, as math.NaN gives it. -/
abbrev nanW : Nat := 9221120237041090561
/-- How a decimal literal is read from a place on (m: its digits so far, c: how many, k: how many of them behind the point), where the reference has an answer v for it. -/
inductive Shape (f : Nat → Int) (n : Nat) : Nat → Int → Nat → Nat → Bool → Nat → Prop
  | done (i : Nat) (m : Int) (c k : Nat) (dot : Bool) (v : Nat) (hi : i = n) (hc : 0 < c) (hv : floatBits .quo .f64 (floatOfInt .f64 m) (powW k) = some v) : Shape f n i m c k dot v
  | empty (i : Nat) (m : Int) (k : Nat) (dot : Bool) (hi : i = n) : Shape f n i m 0 k dot nanW
  | stop (i : Nat) (m : Int) (c k : Nat) (dot : Bool) (hi : i < n) (hd : ¬ (48 ≤ f i ∧ f i ≤ 57)) (hp : f i = 46 → dot = true) (hu : f i ≠ 95) (he : 0 < c → f i ≠ 101 ∧ f i ≠ 69) (hs : c = 0 → low (f i) ≠ 105 ∧ low (f i) ≠ 110)
      (hx : c = 1 → f (i - 1) = 48 → low (f i) ≠ 120 ∧ low (f i) ≠ 98 ∧ low (f i) ≠ 111) : Shape f n i m c k dot nanW
  | point (i : Nat) (m : Int) (c k : Nat) (v : Nat) (hi : i < n) (hp : f i = 46) (h : Shape f n (i + 1) m c k true v) : Shape f n i m c k false v
  | digit (i : Nat) (m : Int) (c k : Nat) (dot : Bool) (v : Nat) (hi : i < n) (hd : 48 ≤ f i ∧ f i ≤ 57) (hc : c < 15) (h : Shape f n (i + 1) (10 * m + (f i - 48)) (c + 1) (if dot = true then k + 1 else k) dot v) : Shape f n i m c k dot v
theorem ex_ite {α : Type} {c : Prop} [Decidable c] {a b : Option α} {P : α → Prop} (ha : c → ∃ r, a = some r ∧ P r) (hb : ¬ c → ∃ r, b = some r ∧ P r) : ∃ r, (if c then a else b) = some r ∧ P r := by
  by_cases h : c
  · rw [if_pos h]; exact ha h
  · rw [if_neg h]; exact hb h
theorem w64 (n : Int) (h0 : -4611686018427387904 ≤ n) (h1 : n ≤ 4611686018427387904) : wrap64 n = n := by unfold wrap64; omega
theorem uw (x : Int) (h0 : 0 ≤ x) (h1 : x < 18446744073709551616) : IntKind.u64.wrap x = x := by
  show x % 18446744073709551616 = x
  omega
/-- What is said where the reading stops at a character that is no digit. -/
def StopAt (f : Nat → Int) (i c : Nat) : Prop :=
  f i ≠ 95 ∧ (0 < c → f i ≠ 101 ∧ f i ≠ 69) ∧ (c = 0 → low (f i) ≠ 105 ∧ low (f i) ≠ 110) ∧ (c = 1 → f (i - 1) = 48 → low (f i) ≠ 120 ∧ low (f i) ≠ 98 ∧ low (f i) ≠ 111)
theorem frac_stop (s : ByteArray) (m : Int) (c k i : Nat) (dot : Bool) (hs : s.size ≤ 5000) (hi : i < s.size) (hci : c ≤ i) :
    ∃ r, Ev (fun g => spec_fraction.j2 g s m c (powW k) dot i (bt s i) s.size i false) r ∧ (r.2 = true → r.1 = nanW ∧ StopAt (fun j => bt s j) i c) := by
  have e1 : wrap64 ((i : Int) - 1) = (i : Int) - 1 := w64 _ (by omega) (by omega)
  have hb : 1 ≤ i → bt s ((i : Int) - 1) = bt s ((i - 1 : Nat) : Int) := fun h => by rw [show ((i - 1 : Nat) : Int) = (i : Int) - 1 from by omega]
  suffices h : ∃ r, spec_fraction.j2 1 s m c (powW k) dot i (bt s i) s.size i false = some r ∧ (r.2 = true → r.1 = nanW ∧ StopAt (fun j => bt s j) i c) by
    obtain ⟨r, h1, h2⟩ := h
    exact ⟨r, Ev.of (fun g => (spec_fraction.mono_l g).2.2 _ _ _ _ _ _ _ _ _ _) h1, h2⟩
  unfold StopAt low
  generalize hl : Go.bits .or .u8 (bt s i) 32 = l
  simp only [spec_fraction.j2, e1, Bool.false_eq_true, if_false, math_NaN.f, Option.bind_some, hl]
  generalize bt s i = x at *
  generalize hpv : bt s ((i : Int) - 1) = pv at *
  generalize hpn : bt s ((i - 1 : Nat) : Int) = pn at *
  repeat' (first | refine ex_ite (fun _ => ?_) (fun _ => ?_) | exact ⟨_, rfl, fun h => absurd h Bool.false_ne_true⟩ | (exfalso; omega) | exact ⟨_, rfl, fun _ => ⟨rfl, by omega⟩⟩ | exact ⟨_, rfl, fun h => ⟨rfl, by have := bne_iff_ne.1 h; omega⟩⟩)
theorem pow15 (c : Nat) (hc : c ≤ 15) : 10 ^ c ≤ 1000000000000000 := by
  have h : 10 ^ c ≤ 10 ^ 15 := Nat.pow_le_pow_right (by omega) hc
  have e : (10 : Nat) ^ 15 = 1000000000000000 := by decide
  omega
theorem frac_at (s : ByteArray) (hs : s.size ≤ 5000) : ∀ (d i : Nat) (m : Int) (c k : Nat) (dot : Bool), d = s.size - i → i ≤ s.size → c ≤ 15 → c ≤ i → k ≤ c → 0 ≤ m → m < (10 ^ c : Nat) → (dot = false → k = 0) →
    ∃ r, Ev (fun g => spec_fraction.l0 g s m c (powW k) dot s.size i) r ∧ (r.2 = true → Shape (fun j => bt s j) s.size i m c k dot r.1)
  | 0, i, m, c, k, dot, hd, hi, hc, _, hk, hm0, hm1, _ => by
    have hp := pow15 c hc
    replace hm1 : m < 1000000000000000 := Int.lt_of_lt_of_le hm1 (Int.ofNat_le.2 hp)
    clear hp
    have he : i = s.size := by omega
    have c1 : ((i : Int) < (s.size : Int)) = False := eq_false (by omega)
    by_cases hz : c = 0
    · subst hz
      refine ⟨(nanW, true), Ev.step (fun g => rfl) ?_, fun _ => Shape.empty i m k dot he⟩
      have cz : (((0 : Nat) : Int) = 0) = True := eq_true rfl
      simp only [spec_fraction.l0, c1, if_false, math_NaN.f, Option.bind_some, cz, if_true]
      exact Ev.now _
    · obtain ⟨q, _, hq, _⟩ := over m k hm0 (by omega) (by omega)
      have hq1 := hq false
      rw [← ofInt m hm0] at hq1
      have c2 : ((c : Int) = 0) = False := eq_false (by omega)
      refine ⟨(D.word false q, true), Ev.step (fun g => rfl) ?_, fun _ => Shape.done i m c k dot _ he (by omega) hq1⟩
      simp only [spec_fraction.l0, c1, c2, if_false, hq1, Option.bind_some]
      exact Ev.now _
  | d + 1, i, m, c, k, dot, hd, hi, hc, hci, hk, hm0, hm1, hdot => by
    have hp := pow15 c hc
    obtain ⟨P, hP⟩ : ∃ P : Nat, P = 10 ^ c := ⟨_, rfl⟩
    rw [← hP] at hp
    have hmP : m < (P : Int) := by rw [hP]; exact hm1
    clear hm1
    replace hP := Aside0.mk hP
    have hlt : i < s.size := by omega
    have c1 : ((i : Int) < (s.size : Int)) = True := eq_true (by omega)
    have c2 : ((0 : Int) ≤ (i : Int)) = True := eq_true (by omega)
    have hr := bt_range s i
    have hw : Aside0 (wrap64 ((i : Int) + 1) = ((i + 1 : Nat) : Int)) := ⟨w64 _ (by omega) (by omega)⟩
    by_cases hpt : bt s i = 46 ∧ dot = false
    · obtain ⟨r, h1, h2⟩ := frac_at s hs d (i + 1) m c k true (by omega) (by omega) hc (by omega) hk hm0 (by rw [← hP.out]; exact hmP) (by simp)
      refine ⟨r, Ev.step (fun g => rfl) ?_, fun hb => by rw [hpt.2]; exact Shape.point i m c k _ hlt hpt.1 (h2 hb)⟩
      simp only [spec_fraction.l0, c1, c2, hpt.1, hpt.2, if_true, Bool.not_false]
      refine Ev.step (fun g => rfl) ?_
      simp only [spec_fraction.j1, if_true, hw.out]
      exact h1
    · have hj1 : ∀ r, Ev (fun g => spec_fraction.j1 g s m c (powW k) dot i (bt s i) s.size i false) r → Ev (fun g => spec_fraction.l0 g s m c (powW k) dot s.size i) r := fun r h => by
        refine Ev.step (fun g => rfl) ?_
        by_cases h46 : bt s i = 46
        · have hdt : dot = true := by cases dot with
            | false => exact absurd ⟨h46, rfl⟩ hpt
            | true => rfl
          subst hdt
          simp only [spec_fraction.l0, c1, c2, h46, if_true, Bool.not_true]
          rw [h46] at h
          exact h
        · simp only [spec_fraction.l0, c1, c2, h46, if_true, if_false]
          exact h
      by_cases hdg : 48 ≤ bt s i ∧ bt s i ≤ 57
      · have hj2 : ∀ r, Ev (fun g => spec_fraction.j2 g s m c (powW k) dot i (bt s i) s.size i true) r → Ev (fun g => spec_fraction.l0 g s m c (powW k) dot s.size i) r := fun r h => by
          refine hj1 r (Ev.step (fun g => rfl) ?_)
          have d1 : (bt s i ≥ 48) = True := eq_true hdg.1
          have d2 : decide (bt s i ≤ 57) = true := decide_eq_true hdg.2
          simp only [spec_fraction.j1, Bool.false_eq_true, if_false, d1, if_true, d2]
          exact h
        have hwc : Aside0 (wrap64 ((c : Int) + 1) = ((c + 1 : Nat) : Int)) := ⟨w64 _ (by omega) (by omega)⟩
        by_cases h15 : c < 15
        · have g15 : (((c + 1 : Nat) : Int) > 15) = False := eq_false (by omega)
          have hk1 : (if dot = true then k + 1 else k) ≤ c + 1 := by split <;> omega
          obtain ⟨r, h1, h2⟩ := frac_at s hs d (i + 1) (10 * m + (bt s i - 48)) (c + 1) (if dot = true then k + 1 else k) dot (by omega) (by omega) (by omega) (by omega) hk1 (by omega)
            (by rw [Nat.pow_succ, ← hP.out]; omega) (fun h => by rw [h, if_neg Bool.false_ne_true]; exact hdot h)
          have e1 : IntKind.u64.wrap (IntKind.u64.wrap (10 * m) + (bt s i - 48) % 256) = 10 * m + (bt s i - 48) := by
            rw [uw (10 * m) (by omega) (by omega), show (bt s i - 48) % 256 = bt s i - 48 from by omega, uw (10 * m + (bt s i - 48)) (by omega) (by omega)]
          refine ⟨r, hj2 r (Ev.step (fun g => rfl) ?_), fun hb => Shape.digit i m c k dot _ hlt hdg h15 (h2 hb)⟩
          simp only [spec_fraction.j2, if_true, hwc.out, g15, if_false, e1, hw.out]
          cases dot with
          | false =>
            simp only [Bool.false_eq_true, if_false] at h1 ⊢
            exact h1
          | true =>
            simp only [if_true] at h1 ⊢
            have hst := powW_step ⟨k, by omega⟩
            simp only at hst
            simp only [hst, Option.bind_some]
            exact h1
        · refine ⟨(0, false), hj2 _ (Ev.step (fun g => rfl) ?_), fun hb => absurd hb Bool.false_ne_true⟩
          have g15 : (((c + 1 : Nat) : Int) > 15) = True := eq_true (by omega)
          simp only [spec_fraction.j2, if_true, hwc.out, g15]
          exact Ev.now _
      · obtain ⟨r, h1, h2⟩ := frac_stop s m c k i dot hs hlt hci
        refine ⟨r, hj1 r (Ev.step (fun g => rfl) ?_), fun hb => ?_⟩
        · by_cases h48 : bt s i ≥ 48
          · have d2 : decide (bt s i ≤ 57) = false := decide_eq_false (by omega)
            simp only [spec_fraction.j1, Bool.false_eq_true, if_false, eq_true h48, if_true, d2]
            exact h1
          · simp only [spec_fraction.j1, Bool.false_eq_true, if_false, eq_false h48]
            exact h1
        · obtain ⟨e1, e2, e3, e4, e5⟩ := h2 hb
          rw [e1]
          exact Shape.stop i m c k dot hlt hdg (fun h46 => by cases dot with
            | false => exact absurd ⟨h46, rfl⟩ hpt
            | true => rfl) e2 e3 e4 e5
/-- The whole reading. -/
theorem frac (s : ByteArray) (hs : s.size ≤ 5000) : ∃ v b, (∃ g, spec_fraction.f g s = some (v, b)) ∧ (b = true → Shape (fun j => bt s j) s.size 0 0 0 0 false v) := by
  obtain ⟨⟨v, b⟩, h1, h2⟩ := frac_at s hs s.size 0 0 0 0 false (by omega) (by omega) (by omega) (by omega) (by omega) (by omega) (by decide) (fun _ => rfl)
  exact ⟨v, b, h1.rounds, h2⟩
end Go.Proofs.YtllaepgbpmiglaaGreatDoor
