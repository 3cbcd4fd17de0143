/- What strconv's readFloat makes of a text that has the reference's shape of a decimal literal. Conditions: the text has at most 5000 bytes. -/
import Derived.Test.YtllaepgbpmiglaaGreatDoorFrac
namespace Go.Proofs.YtllaepgbpmiglaaGreatDoor
open Go.RowKit Go.Proofs.YtllaepgbpmiglaaGreatDoorW.PrintWords Go.Proofs.YtllaepgbpmiglaaGreatDoor.QNum Floats
theorem low_e_fin : ∀ n : Fin 256, low (n.val : Int) = 101 → n.val = 101 ∨ n.val = 69 := by decide +kernel
theorem low_e (c : Int) (h0 : 0 ≤ c) (h1 : c ≤ 255) (h : low c = 101) : c = 101 ∨ c = 69 := by
  have h2 := low_e_fin ⟨c.toNat, by omega⟩
  have e : ((c.toNat : Nat) : Int) = c := by omega
  simp only [e] at h2
  have := h2 h
  omega
/-- What comes out. -/
def ReadOut (t : ByteArray) (v : Nat) (r1 r2 r6 : Int) (r7 : Bool) : Prop :=
  (r7 = false ∧ v = nanW) ∨
  (r7 = true ∧ ∃ K : Nat, K ≤ 15 ∧ 0 ≤ r1 ∧ r1 < 1000000000000000 ∧ (r1 ≠ 0 → r2 = -(K : Int)) ∧ (r6 = (t.size : Int) → floatBits .quo .f64 (floatOfInt .f64 r1) (powW K) = some v) ∧ (r6 ≠ (t.size : Int) → v = nanW))
theorem rf_none (t : ByteArray) (m : Int) (neg dot : Bool) (p nd dp : Int) :
    Ev (fun g => strconv_readFloat.j7 g t m 0 neg false false p false false 10 101 dot false nd nd dp) (m, 0, neg, false, false, p, false) := by
  refine Ev.step (fun g => rfl) ?_
  simp only [strconv_readFloat.j7, Bool.false_eq_true, if_false]
  exact Ev.now _
theorem rf_j8 (t : ByteArray) (m : Int) (neg : Bool) (p nd dp : Int) (hp : 0 ≤ p) (he : p < t.size → low (bt t p) ≠ 101) :
    Ev (fun g => strconv_readFloat.j8 g t m 0 neg false false p false false 10 101 nd dp) (m, if m = 0 then 0 else wrap64 (dp - nd), neg, false, false, p, true) := by
  have c16 : ((10 : Int) = 16) = False := eq_false (by omega)
  refine Ev.step (fun g => rfl) ?_
  simp only [strconv_readFloat.j8, c16, if_false]
  have h10 : Ev (fun g => strconv_readFloat.j10 g t m 0 neg false false p false false 10 nd dp false) (m, if m = 0 then 0 else wrap64 (dp - nd), neg, false, false, p, true) := by
    refine Ev.step (fun g => rfl) ?_
    by_cases hm : m = 0
    · simp only [strconv_readFloat.j10, Bool.false_eq_true, if_false, c16, if_true, hm]
      exact Ev.now _
    · simp only [strconv_readFloat.j10, Bool.false_eq_true, if_false, c16, hm]
      exact Ev.now _
  refine Ev.step (fun g => rfl) ?_
  by_cases hlt : p < t.size
  · have hb : (low (bt t p) == 101) = false := beq_eq_false_iff_ne.2 (he hlt)
    unfold low at hb
    simp only [strconv_readFloat.j9, hlt, hp, if_true, strconv_lower.f, Option.bind_some, hb]
    exact h10
  · simp only [strconv_readFloat.j9, hlt, if_false]
    exact h10
theorem rf_some (t : ByteArray) (m : Int) (neg dot : Bool) (p nd dp : Int) (hp : 0 ≤ p) (he : p < t.size → low (bt t p) ≠ 101) :
    Ev (fun g => strconv_readFloat.j7 g t m 0 neg false false p false false 10 101 dot true nd nd dp) (m, if m = 0 then 0 else wrap64 ((if dot = true then dp else nd) - nd), neg, false, false, p, true) := by
  refine Ev.step (fun g => rfl) ?_
  cases dot
  · simp only [strconv_readFloat.j7, Bool.false_eq_true, if_false, if_true]
    exact rf_j8 t m neg p nd nd hp he
  · simp only [strconv_readFloat.j7, if_true]
    exact rf_j8 t m neg p nd dp hp he
/-- The end of the digits: nothing more is asked of what follows. -/
theorem rf_stop (t : ByteArray) (m : Int) (neg dot dig : Bool) (p nd dp : Int) (hp : 0 ≤ p) (hlt : p < t.size) (h95 : bt t p ≠ 95) (h46 : bt t p = 46 → dot = true) (hd : ¬ (48 ≤ bt t p ∧ bt t p ≤ 57))
    (r : Int × Int × Bool × Bool × Bool × Int × Bool) (h : Ev (fun g => strconv_readFloat.j7 g t m 0 neg false false p false false 10 101 dot dig nd nd dp) r) :
    Ev (fun g => strconv_readFloat.l0 g t m 0 neg false false p false false 10 19 101 dot dig nd nd dp) r := by
  have c16 : ((10 : Int) = 16) = False := eq_false (by omega)
  have b95 : (bt t p == 95) = false := beq_eq_false_iff_ne.2 h95
  have t1 : (true == false) = false := rfl
  have t2 : (true == true) = true := rfl
  have hj4 : Ev (fun g => strconv_readFloat.j4 g t m 0 neg false false p false false 10 19 101 dot dig nd nd dp (bt t p) false) r := by
    refine Ev.step (fun g => rfl) ?_
    simp only [strconv_readFloat.j4, Bool.false_eq_true, if_false, c16, t1]
    refine Ev.step (fun g => rfl) ?_
    simp only [strconv_readFloat.j6, Bool.false_eq_true, if_false]
    exact h
  refine Ev.step (fun g => rfl) ?_
  by_cases hpt : bt t p = 46
  · have b46 : (bt t p == 46) = true := beq_iff_eq.2 hpt
    simp only [strconv_readFloat.l0, hlt, hp, if_true, b95, b46, t1, t2, Bool.false_eq_true, if_false, h46 hpt]
    rw [h46 hpt] at h
    exact h
  · have b46 : (bt t p == 46) = false := beq_eq_false_iff_ne.2 hpt
    by_cases h48 : 48 ≤ bt t p
    · have d57 : decide (bt t p ≤ 57) = false := decide_eq_false (by omega)
      simp only [strconv_readFloat.l0, hlt, hp, if_true, b95, b46, t1, Bool.false_eq_true, if_false, h48, d57]
      exact hj4
    · simp only [strconv_readFloat.l0, hlt, hp, if_true, b95, b46, t1, Bool.false_eq_true, if_false, h48]
      exact hj4
theorem rf_end (t : ByteArray) (m : Int) (neg dot : Bool) (p nd dp : Int) (k c v : Nat) (hp : 0 ≤ p) (hk : k ≤ c) (hc : c ≤ 15) (hm0 : 0 ≤ m) (hm1 : m < 1000000000000000) (_hn0 : 0 ≤ nd) (_hnc : nd ≤ c)
    (hdt : dot = true → dp = nd - k) (hdf : dot = false → k = 0) (he : p < t.size → low (bt t p) ≠ 101)
    (hv : p = (t.size : Int) → floatBits .quo .f64 (floatOfInt .f64 m) (powW k) = some v) (hv2 : p ≠ (t.size : Int) → v = nanW) :
    ∃ r1 r2 r6 r7, Ev (fun g => strconv_readFloat.j7 g t m 0 neg false false p false false 10 101 dot true nd nd dp) (r1, r2, neg, false, false, r6, r7) ∧ ReadOut t v r1 r2 r6 r7 := by
  refine ⟨_, _, _, _, rf_some t m neg dot p nd dp hp he, ?_⟩
  refine .inr ⟨rfl, k, by omega, hm0, hm1, fun hz => ?_, hv, hv2⟩
  rw [if_neg hz]
  cases dot
  · rw [if_neg Bool.false_ne_true, hdf rfl, w64 _ (by omega) (by omega)]
    omega
  · rw [if_pos rfl, hdt rfl, w64 _ (by omega) (by omega)]
    omega
theorem rf_out (t : ByteArray) (m : Int) (neg dot dig : Bool) (p nd dp : Int) (hp : p = (t.size : Int))
    (r : Int × Int × Bool × Bool × Bool × Int × Bool) (h : Ev (fun g => strconv_readFloat.j7 g t m 0 neg false false p false false 10 101 dot dig nd nd dp) r) :
    Ev (fun g => strconv_readFloat.l0 g t m 0 neg false false p false false 10 19 101 dot dig nd nd dp) r := by
  have c1 : (p < (t.size : Int)) = False := eq_false (by omega)
  refine Ev.step (fun g => rfl) ?_
  simp only [strconv_readFloat.l0, c1, if_false]
  exact h
theorem rf_point (t : ByteArray) (m : Int) (neg dig : Bool) (p nd dp : Int) (hp : 0 ≤ p) (hlt : p < t.size) (hs : t.size ≤ 5000) (h46 : bt t p = 46)
    (r : Int × Int × Bool × Bool × Bool × Int × Bool) (h : Ev (fun g => strconv_readFloat.l0 g t m 0 neg false false (p + 1) false false 10 19 101 true dig nd nd nd) r) :
    Ev (fun g => strconv_readFloat.l0 g t m 0 neg false false p false false 10 19 101 false dig nd nd dp) r := by
  have hw : wrap64 (p + 1) = p + 1 := w64 _ (by omega) (by omega)
  have t1 : (true == ((46 : Int) == 95)) = false := by decide
  have t2 : (true == ((46 : Int) == 46)) = true := by decide
  refine Ev.step (fun g => rfl) ?_
  simp only [strconv_readFloat.l0, hlt, hp, if_true, h46, t1, t2, Bool.false_eq_true, if_false, hw]
  exact h
theorem rf_digit (t : ByteArray) (m : Int) (neg dot dig : Bool) (p nd dp : Int) (hp : 0 ≤ p) (hlt : p < t.size) (hs : t.size ≤ 5000) (hd : 48 ≤ bt t p ∧ bt t p ≤ 57) (hm0 : 0 ≤ m) (hm1 : m < 1000000000000000) (hn0 : 0 ≤ nd) (hn1 : nd < 19)
    (hd0 : -100000 ≤ dp) (hd1 : dp ≤ 100000) (r : Int × Int × Bool × Bool × Bool × Int × Bool)
    (h0 : bt t p = 48 → nd = 0 → Ev (fun g => strconv_readFloat.l0 g t m 0 neg false false (p + 1) false false 10 19 101 dot true nd nd (dp - 1)) r)
    (h1 : ¬ (bt t p = 48 ∧ nd = 0) → Ev (fun g => strconv_readFloat.l0 g t (10 * m + (bt t p - 48)) 0 neg false false (p + 1) false false 10 19 101 dot true (nd + 1) (nd + 1) dp) r) :
    Ev (fun g => strconv_readFloat.l0 g t m 0 neg false false p false false 10 19 101 dot dig nd nd dp) r := by
  have b95 : (bt t p == 95) = false := beq_eq_false_iff_ne.2 (by omega)
  have b46 : (bt t p == 46) = false := beq_eq_false_iff_ne.2 (by omega)
  have d57 : decide (bt t p ≤ 57) = true := decide_eq_true hd.2
  have h48 : (48 ≤ bt t p) = True := eq_true hd.1
  have t1 : (true == false) = false := rfl
  have t2 : (true == true) = true := rfl
  have hj5 : Ev (fun g => strconv_readFloat.j5 g t m 0 neg false false p false false 10 19 101 dot true nd nd dp (bt t p) (decide (bt t p = 48 ∧ nd = 0))) r := by
    refine Ev.step (fun g => rfl) ?_
    by_cases hz : bt t p = 48 ∧ nd = 0
    · have hw : wrap64 (p + 1) = p + 1 := w64 _ (by omega) (by omega)
      have hw2 : wrap64 (dp - 1) = dp - 1 := w64 _ (by omega) (by omega)
      have ez : decide (bt t p = 48 ∧ nd = 0) = true := decide_eq_true hz
      simp only [strconv_readFloat.j5, ez, if_true, hw, hw2]
      exact h0 hz.1 hz.2
    · have hlt19 : (nd < 19) = True := eq_true hn1
      have ez : decide (bt t p = 48 ∧ nd = 0) = false := decide_eq_false hz
      have e1 : IntKind.u64.wrap (IntKind.u64.wrap (m * 10) + (bt t p - 48) % 256) = 10 * m + (bt t p - 48) := by
        rw [uw (m * 10) (by omega) (by omega), show (bt t p - 48) % 256 = bt t p - 48 from by omega, Int.mul_comm m 10, uw (10 * m + (bt t p - 48)) (by omega) (by omega)]
      have hw := w64 (p + 1) (by omega) (by omega)
      have hw2 := w64 (nd + 1) (by omega) (by omega)
      simp only [strconv_readFloat.j5, ez, Bool.false_eq_true, if_false, hlt19, if_true, e1, hw, hw2]
      exact h1 hz
  refine Ev.step (fun g => rfl) ?_
  simp only [strconv_readFloat.l0, hlt, hp, if_true, b95, b46, t1, Bool.false_eq_true, if_false, h48, d57, t2]
  refine Ev.step (fun g => rfl) ?_
  by_cases hz : bt t p = 48
  · obtain ⟨B, hB⟩ : ∃ B, B = decide (bt t p = 48 ∧ nd = 0) := ⟨_, rfl⟩
    rw [← hB] at hj5
    have e : (nd == 0) = B := by
      rw [hB]
      by_cases h : nd = 0
      · rw [decide_eq_true ⟨hz, h⟩, beq_iff_eq.2 h]
      · rw [decide_eq_false (fun h2 => h h2.2), beq_eq_false_iff_ne.2 h]
    simp only [strconv_readFloat.j4, if_true, eq_true hz, e]
    exact hj5
  · have e : decide (bt t p = 48 ∧ nd = 0) = false := decide_eq_false (fun h2 => hz h2.1)
    rw [e] at hj5
    simp only [strconv_readFloat.j4, if_true, if_false, eq_false hz]
    exact hj5
theorem rf_at (t : ByteArray) (off n : Nat) (neg : Bool) (hs : t.size ≤ 5000) (hn : off + n = t.size) {i : Nat} {m : Int} {c k : Nat} {dot : Bool} {v : Nat} (h : Shape (fun j => bt t ((off + j : Nat) : Int)) n i m c k dot v) :
    ∀ (nd dp : Int), i ≤ n → c ≤ i → c ≤ 15 → k ≤ c → 0 ≤ m → m < (10 ^ c : Nat) → 0 ≤ nd → nd ≤ c → (nd = 0 → m = 0) → (dot = true → dp = nd - k) → (dot = false → k = 0 ∧ -(c : Int) ≤ dp ∧ dp ≤ 0) →
    ∃ r1 r2 r6 r7, Ev (fun g => strconv_readFloat.l0 g t m 0 neg false false ((off + i : Nat) : Int) false false 10 19 101 dot (decide (0 < c)) nd nd dp) (r1, r2, neg, false, false, r6, r7) ∧ ReadOut t v r1 r2 r6 r7 := by
  induction h with
  | done i m c k dot v hi hc hv =>
    intro nd dp hin hci hc15 hk hm0 hm1 hn0 hn1 hz hdt hdf
    replace hm1 : m < 1000000000000000 := Int.lt_of_lt_of_le hm1 (Int.ofNat_le.2 (pow15 c hc15))
    have hp : ((off + i : Nat) : Int) = (t.size : Int) := by omega
    obtain ⟨r1, r2, r6, r7, h1, h2⟩ := rf_end t m neg dot ((off + i : Nat) : Int) nd dp k c v (by omega) hk hc15 hm0 hm1 hn0 hn1 hdt (fun h => (hdf h).1) (fun h => by omega) (fun _ => hv) (fun h => absurd hp h)
    have hd : decide (0 < c) = true := decide_eq_true hc
    rw [hd]
    exact ⟨r1, r2, r6, r7, rf_out t m neg dot true _ nd dp hp _ h1, h2⟩
  | empty i m k dot hi =>
    intro nd dp hin hci hc15 hk hm0 hm1 hn0 hn1 hz hdt hdf
    have hp : ((off + i : Nat) : Int) = (t.size : Int) := by omega
    exact ⟨_, _, _, _, rf_out t m neg dot false _ nd dp hp _ (rf_none t m neg dot _ nd dp), .inl ⟨rfl, rfl⟩⟩
  | stop i m c k dot hi hd hp hu he hs' hx =>
    intro nd dp hin hci hc15 hk hm0 hm1 hn0 hn1 hz hdt hdf
    replace hm1 : m < 1000000000000000 := Int.lt_of_lt_of_le hm1 (Int.ofNat_le.2 (pow15 c hc15))
    have hlt : ((off + i : Nat) : Int) < (t.size : Int) := by omega
    have hr := bt_range t ((off + i : Nat) : Int)
    by_cases hc : 0 < c
    · have he' := he hc
      obtain ⟨r1, r2, r6, r7, h1, h2⟩ := rf_end t m neg dot ((off + i : Nat) : Int) nd dp k c nanW (by omega) hk hc15 hm0 hm1 hn0 hn1 hdt (fun h => (hdf h).1)
        (fun _ h => by have := low_e _ hr.1 hr.2 h; omega) (fun h => by omega) (fun _ => rfl)
      rw [decide_eq_true hc]
      exact ⟨r1, r2, r6, r7, rf_stop t m neg dot true _ nd dp (by omega) hlt hu hp hd _ h1, h2⟩
    · rw [decide_eq_false hc]
      exact ⟨_, _, _, _, rf_stop t m neg dot false _ nd dp (by omega) hlt hu hp hd _ (rf_none t m neg dot _ nd dp), .inl ⟨rfl, rfl⟩⟩
  | point i m c k v hi hp h ih =>
    intro nd dp hin hci hc15 hk hm0 hm1 hn0 hn1 hz hdt hdf
    obtain ⟨hk0, _, _⟩ := hdf rfl
    obtain ⟨r1, r2, r6, r7, h1, h2⟩ := ih nd nd (by omega) (by omega) hc15 hk hm0 hm1 hn0 hn1 hz (fun _ => by omega) (fun h => absurd h Bool.noConfusion)
    refine ⟨r1, r2, r6, r7, rf_point t m neg _ _ nd dp (by omega) (by omega) hs hp _ ?_, h2⟩
    rw [show ((off + i : Nat) : Int) + 1 = ((off + (i + 1) : Nat) : Int) from by omega]
    exact h1
  | digit i m c k dot v hi hd hc h ih =>
    intro nd dp hin hci hc15 hk hm0 hm1 hn0 hn1 hz hdt hdf
    have hmb : m < 1000000000000000 := Int.lt_of_lt_of_le hm1 (Int.ofNat_le.2 (pow15 c hc15))
    obtain ⟨P, hP⟩ : ∃ P : Nat, P = 10 ^ c := ⟨_, rfl⟩
    have hmP : m < (P : Int) := by rw [hP]; exact hm1
    clear hm1
    have hm2 : 10 * m + (bt t ((off + i : Nat) : Int) - 48) < ((10 ^ (c + 1) : Nat) : Int) := by
      rw [Nat.pow_succ, ← hP]
      clear hP
      omega
    clear hP hmP
    replace hm2 := Aside0.mk hm2
    have hk1 : (if dot = true then k + 1 else k) ≤ c + 1 := by split <;> omega
    have hdc : decide (0 < c + 1) = true := decide_eq_true (by omega)
    rw [hdc] at ih
    have hdp : -100000 ≤ dp ∧ dp ≤ 100000 := by
      cases dot
      · have := hdf rfl; omega
      · have := hdt rfl; omega
    have hen : ((off + i : Nat) : Int) + 1 = ((off + (i + 1) : Nat) : Int) := by omega
    by_cases hz0 : bt t ((off + i : Nat) : Int) = 48 ∧ nd = 0
    · obtain ⟨r1, r2, r6, r7, h1, h2⟩ := ih nd (dp - 1) (by omega) (by omega) (by omega) hk1 (by omega) hm2.out hn0 (by omega) (fun _ => by have := hz hz0.2; omega)
        (fun h => by have := hdt h; rw [if_pos h]; omega) (fun h => by have := hdf h; rw [if_neg (by rw [h]; exact Bool.false_ne_true)]; omega)
      refine ⟨r1, r2, r6, r7, rf_digit t m neg dot _ _ nd dp (by omega) (by omega) hs hd hm0 hmb hn0 (by omega) hdp.1 hdp.2 _ (fun _ _ => ?_) (fun hno => absurd hz0 hno), h2⟩
      rw [hen]
      have e : 10 * m + (bt t ((off + i : Nat) : Int) - 48) = m := by have := hz hz0.2; omega
      simp only [e] at h1
      exact h1
    · obtain ⟨r1, r2, r6, r7, h1, h2⟩ := ih (nd + 1) dp (by omega) (by omega) (by omega) hk1 (by omega) hm2.out (by omega) (by omega) (fun h => by omega)
        (fun h => by have := hdt h; rw [if_pos h]; omega) (fun h => by have := hdf h; rw [if_neg (by rw [h]; exact Bool.false_ne_true)]; omega)
      refine ⟨r1, r2, r6, r7, rf_digit t m neg dot _ _ nd dp (by omega) (by omega) hs hd hm0 hmb hn0 (by omega) hdp.1 hdp.2 _ (fun a b => absurd ⟨a, b⟩ hz0) (fun _ => ?_), h2⟩
      rw [hen]
      exact h1
end Go.Proofs.YtllaepgbpmiglaaGreatDoor
