/- Plain facts on floats of 64 bits as Ieee has them: what a word times 1 or -1 is, a word over 1, a quotient's sign, a word held against itself; that a NaN is told from itself. -/
import Derived.Laws.FloatArith
import GoSem.Op.Unary
namespace Go.Proofs.YtllaepgbpmiglaaGreatDoor.Floats
open Ieee
abbrev D : Format := double
theorem hbin : D.binade = 4503599627370496 := by decide
theorem hsig : D.signWeight = 9223372036854775808 := by decide
theorem hinf : D.infRung = 9218868437227405312 := by decide
theorem hleast : D.leastPlace = -1074 := by decide
theorem hfrac : D.fractionBits = 52 := rfl
def magOf (r : Nat) : Nat := if r < 4503599627370496 then r else 4503599627370496 + r % 4503599627370496
def placeOf (r : Nat) : Int := if r < 4503599627370496 then -1074 else -1074 + ((r / 4503599627370496 - 1 : Nat) : Int)
theorem word_eq (s : Bool) (r : Nat) : D.word s r = if s = true then 9223372036854775808 + r else r := by
  unfold Format.word
  rw [hsig]
theorem read_word (s : Bool) (r : Nat) (h : r < 9218868437227405312) : D.read (D.word s r) = .number s (magOf r) (placeOf r) := by
  have h1 : D.word s r % 9223372036854775808 = r := by rw [word_eq]; split <;> omega
  have h2 : (D.word s r / 9223372036854775808 % 2 == 1) = s := by
    rw [word_eq]
    cases s
    · rw [if_neg Bool.false_ne_true, Nat.div_eq_of_lt (by omega)]; rfl
    · rw [if_pos rfl, show (9223372036854775808 + r) / 9223372036854775808 = 1 from by omega]; rfl
  unfold Format.read
  simp only [hsig, hbin, hinf, hleast, h1, h2]
  unfold magOf placeOf
  by_cases hb : r < 4503599627370496
  · rw [if_pos hb, if_pos hb, if_pos hb]
  · rw [if_neg hb, if_neg hb, if_neg hb, if_pos h]
theorem read_inf (s : Bool) : D.read (D.word s 9218868437227405312) = .infinity s := by cases s <;> decide
theorem log2_mul (a d : Nat) (h : a ≠ 0) : (a * 2 ^ d).log2 = a.log2 + d := by
  have hp : 0 < 2 ^ d := Nat.two_pow_pos _
  have hm : a * 2 ^ d ≠ 0 := Nat.mul_ne_zero h (by omega)
  have h1 : 2 ^ a.log2 ≤ a := Nat.log2_self_le h
  have h2 : a < 2 ^ (a.log2 + 1) := Nat.lt_log2_self
  have g1 : a.log2 + d ≤ (a * 2 ^ d).log2 := (Nat.le_log2 hm).2 (by rw [Nat.pow_add]; exact Nat.mul_le_mul_right _ h1)
  have g2 : (a * 2 ^ d).log2 < a.log2 + d + 1 := (Nat.log2_lt hm).2 (by
    rw [show a.log2 + d + 1 = a.log2 + 1 + d from by omega, Nat.pow_add]
    exact Nat.mul_lt_mul_of_pos_right h2 hp)
  omega
theorem log2_52 (m : Nat) (h0 : 4503599627370496 ≤ m) (h1 : m < 9007199254740992) : m.log2 = 52 := by
  have hm : m ≠ 0 := by omega
  have g1 : 52 ≤ m.log2 := (Nat.le_log2 hm).2 (by omega)
  have g2 : m.log2 < 53 := (Nat.log2_lt hm).2 (by omega)
  omega
theorem cut_exact (s : Bool) (m d : Nat) (h : m ≠ 0) : Toward.even.cut s (m * 2 ^ d) d = m := by
  have hp : 0 < 2 ^ d := Nat.two_pow_pos _
  have hd : min d ((m * 2 ^ d).log2 + 2) = d := by rw [log2_mul m d h]; omega
  unfold Toward.cut
  simp only [hd, Nat.one_shiftLeft, Nat.mul_mod_left, Nat.mul_zero, Nat.mul_div_cancel m hp]
  have e2 : (2 ^ d == 0) = false := beq_eq_false_iff_ne.2 (by omega)
  simp [e2]
theorem nearest_word (s : Bool) (r d : Nat) (h : r < 9218868437227405312) : D.nearest s (magOf r * 2 ^ d) (placeOf r - d) = D.word s r := by
  have hp : 0 < 2 ^ d := Nat.two_pow_pos _
  by_cases hz : magOf r = 0
  · have hr : r = 0 := by unfold magOf at hz; split at hz <;> omega
    unfold Format.nearest
    rw [hz, Nat.zero_mul, if_pos rfl, hr]
  · have hm : magOf r * 2 ^ d ≠ 0 := Nat.mul_ne_zero hz (by omega)
    have hlast : max (placeOf r - d + ((magOf r * 2 ^ d).log2 : Int) - 52) (-1074) = placeOf r := by
      rw [log2_mul _ _ hz]
      unfold placeOf
      by_cases hb : r < 4503599627370496
      · rw [if_pos hb]
        have hl : (magOf r).log2 < 52 := (Nat.log2_lt hz).2 (by unfold magOf; rw [if_pos hb]; omega)
        omega
      · rw [if_neg hb]
        have hl : (magOf r).log2 = 52 := log2_52 _ (by unfold magOf; rw [if_neg hb]; omega) (by unfold magOf; rw [if_neg hb]; omega)
        omega
    unfold Format.nearest
    rw [if_neg hm]
    simp only [hfrac, hleast, hbin, hinf]
    rw [show ((52 : Nat) : Int) = 52 from rfl, hlast]
    rw [show (placeOf r - (d : Int) - placeOf r).toNat = 0 from by omega, show (placeOf r - (placeOf r - (d : Int))).toNat = d from by omega, Nat.shiftLeft_zero, cut_exact s _ d hz]
    congr 1
    unfold placeOf magOf
    by_cases hb : r < 4503599627370496
    · rw [if_pos hb, if_pos hb]; omega
    · rw [if_neg hb, if_neg hb]; omega
/-- The rung that a number is written at: its sign has no say. -/
def rungOf (mag : Nat) (place : Int) : Nat := D.nearest false mag place
theorem cut_sign (s : Bool) (n d : Nat) : Toward.even.cut s n d = Toward.even.cut false n d := rfl
theorem word_false (r : Nat) : D.word false r = r := by rw [word_eq, if_neg Bool.false_ne_true]
theorem nearest_sign (s : Bool) (mag : Nat) (place : Int) : D.nearest s mag place = D.word s (rungOf mag place) := by
  unfold rungOf Format.nearest
  by_cases h : mag = 0
  · rw [if_pos h, if_pos h, word_false]
  · rw [if_neg h, if_neg h]
    simp only [cut_sign s]
    rw [word_false]
theorem rungOf_le (mag : Nat) (place : Int) : rungOf mag place ≤ 9218868437227405312 := by
  unfold rungOf Format.nearest
  by_cases h : mag = 0
  · rw [if_pos h]
    exact Nat.zero_le _
  · rw [if_neg h, word_eq, if_neg Bool.false_ne_true]
    rw [hinf]
    exact Nat.min_le_right _ _
/-! ### the operations -/
theorem fmt : FloatKind.f64.format = D := rfl
theorem one_mag : magOf 4607182418800017408 = 2 ^ 52 := by decide
theorem one_place : placeOf 4607182418800017408 = -52 := by decide
theorem read_one (s : Bool) : D.read (D.word s 4607182418800017408) = .number s (2 ^ 52) (-52) := by rw [read_word _ _ (by omega), one_mag, one_place]
theorem mul_sign (neg : Bool) (q : Nat) (hq : q ≤ 9218868437227405312) : floatBits .mul .f64 (D.word neg 4607182418800017408) (D.word false q) = some (D.word neg q) := by
  show Format.mul D _ _ = _
  unfold Format.mul
  by_cases hi : q = 9218868437227405312
  · subst hi
    rw [read_one, read_inf]
    cases neg <;> decide
  · rw [read_one, read_word _ _ (by omega)]
    simp only [Datum.product, Option.map_some, Format.write, Bool.xor_false]
    rw [show (2 : Nat) ^ 52 * magOf q = magOf q * 2 ^ 52 from Nat.mul_comm _ _, show (-52 : Int) + placeOf q = placeOf q - (52 : Nat) from by omega]
    rw [nearest_word neg q 52 (by omega)]
theorem cmp_self (x : Int) : compare x x = .eq := by
  show compareOfLessAndEq x x = .eq
  unfold compareOfLessAndEq
  rw [if_neg (by omega), if_pos rfl]
theorem order_self (s : Bool) (q : Nat) (hq : q ≤ 9218868437227405312) : FloatKind.f64.format.order (D.word s q) (D.word s q) = some .eq := by
  show Format.order D _ _ = _
  unfold Format.order
  by_cases hi : q = 9218868437227405312
  · subst hi
    rw [read_inf]
    cases s <;> rfl
  · rw [read_word _ _ (by omega)]
    simp only [Datum.order]
    exact congrArg some (cmp_self _)
/-- The quotient's rung: the signs have no say. -/
def quoRung (r n : Nat) (j : Int) : Nat :=
  rungOf (2 * ((magOf r <<< (54 + n.log2 - (magOf r).log2)) / n) + ((magOf r <<< (54 + n.log2 - (magOf r).log2)) % n != 0).toNat) (placeOf r - j - ((54 + n.log2 - (magOf r).log2 : Nat) : Int) - 1)
theorem quo_word (s : Bool) (r p n : Nat) (j : Int) (hr : r < 9218868437227405312) (hp : D.read p = .number false n j) (hn : n ≠ 0) : floatBits .quo .f64 (D.word s r) p = some (D.word s (quoRung r n j)) := by
  show Format.div D _ _ = _
  unfold Format.div
  rw [read_word _ _ hr, hp]
  simp only [Datum.quotient, if_neg hn, Option.map_some, Format.write, Bool.xor_false, hfrac]
  rw [nearest_sign]
  rfl
theorem quoRung_le (r n : Nat) (j : Int) : quoRung r n j ≤ 9218868437227405312 := rungOf_le _ _
theorem quo_one (r : Nat) (hr : r < 9218868437227405312) : quoRung r (2 ^ 52) (-52) = r := by
  have hl : (magOf r).log2 ≤ 52 := by
    by_cases hz : magOf r = 0
    · rw [hz]; decide
    · have : (magOf r).log2 < 53 := (Nat.log2_lt hz).2 (by unfold magOf; split <;> omega)
      omega
  obtain ⟨d, hd⟩ : ∃ d : Nat, 54 + ((2 : Nat) ^ 52).log2 - (magOf r).log2 = 52 + d := ⟨54 - (magOf r).log2, by rw [show ((2 : Nat) ^ 52).log2 = 52 from by decide]; omega⟩
  unfold quoRung
  rw [hd, Nat.shiftLeft_eq, show (2 : Nat) ^ (52 + d) = 2 ^ d * 2 ^ 52 from by rw [Nat.pow_add, Nat.mul_comm], ← Nat.mul_assoc, Nat.mul_div_cancel _ (Nat.two_pow_pos 52), Nat.mul_mod_left]
  have h0 : ((0 : Nat) != 0).toNat = 0 := rfl
  rw [h0, Nat.add_zero, show 2 * (magOf r * 2 ^ d) = magOf r * 2 ^ (d + 1) from by rw [Nat.pow_succ, Nat.mul_comm 2, Nat.mul_assoc], show placeOf r - -52 - ((52 + d : Nat) : Int) - 1 = placeOf r - ((d + 1 : Nat) : Int) from by omega]
  unfold rungOf
  rw [nearest_word false r (d + 1) hr, word_false]
/-! ### whole numbers -/
theorem ofInt (m : Int) (h0 : 0 ≤ m) : floatOfInt .f64 m = D.word false (rungOf m.toNat 0) := by
  show D.nearest (decide (m < 0)) m.natAbs 0 = _
  rw [decide_eq_false (by omega), nearest_sign, show m.natAbs = m.toNat from by omega]
theorem ofInt_lt (m : Nat) (h1 : m < 9007199254740992) : rungOf m 0 < 9218868437227405312 := by
  unfold rungOf
  by_cases h : m = 0
  · subst h
    decide
  · have hl : m.log2 < 53 := (Nat.log2_lt h).2 (by omega)
    have e1 : max ((0 : Int) + (m.log2 : Int) - 52) (-1074) = (m.log2 : Int) - 52 := by omega
    unfold Format.nearest
    rw [if_neg h]
    simp only [hfrac, hleast, hbin, hinf]
    rw [show ((52 : Nat) : Int) = 52 from rfl, e1, word_false]
    rw [show (((m.log2 : Int) - 52) - 0).toNat = 0 from by omega]
    have hk : Toward.even.cut false (m <<< (0 - ((m.log2 : Int) - 52)).toNat) 0 = m * 2 ^ (52 - m.log2) := by
      rw [show (0 - ((m.log2 : Int) - 52)).toNat = 52 - m.log2 from by omega, Nat.shiftLeft_eq]
      have := cut_exact false (m * 2 ^ (52 - m.log2)) 0 (Nat.mul_ne_zero h (by have := Nat.two_pow_pos (52 - m.log2); omega))
      rwa [Nat.pow_zero, Nat.mul_one] at this
    rw [hk]
    have h2 : m < 2 ^ (m.log2 + 1) := Nat.lt_log2_self
    have h3 : m * 2 ^ (52 - m.log2) < 2 ^ (m.log2 + 1) * 2 ^ (52 - m.log2) := Nat.mul_lt_mul_of_pos_right h2 (Nat.two_pow_pos _)
    rw [← Nat.pow_add, show m.log2 + 1 + (52 - m.log2) = 53 from by omega] at h3
    have h4 : (2 : Nat) ^ 53 = 9007199254740992 := by decide
    have h5 : (((m.log2 : Int) - 52) - -1074).toNat ≤ 1074 := by omega
    have h6 : (((m.log2 : Int) - 52) - -1074).toNat * 4503599627370496 ≤ 1074 * 4503599627370496 := Nat.mul_le_mul_right _ h5
    refine Nat.lt_of_le_of_lt (Nat.min_le_left _ _) ?_
    omega
/-! ### the sign turned -/
theorem neg_word (r : Nat) (h : r < 9223372036854775808) : Op.negFloat .f64 (D.word false r) = D.word true r := by
  rw [word_false, word_eq, if_pos rfl]
  show r ^^^ 2 ^ 63 = 9223372036854775808 + r
  have h1 : (r ^^^ 2 ^ 63) / 2 ^ 63 = 1 := by
    rw [Nat.xor_div_two_pow, Nat.div_eq_of_lt (by omega)]
    decide
  have h2 : (r ^^^ 2 ^ 63) % 2 ^ 63 = r := by
    rw [Nat.xor_mod_two_pow, Nat.mod_self, Nat.xor_zero, Nat.mod_eq_of_lt (by omega)]
  omega
/-! ### powers of ten -/
def powW (k : Nat) : Nat := [4607182418800017408, 4621819117588971520, 4636737291354636288, 4652007308841189376, 4666723172467343360, 4681608360884174848, 4696837146684686336, 4711630319722168320, 4726483295884279808, 4741671816366391296, 4756540486875873280, 4771362005757984768, 4786511204640096256, 4801453603149578240, 4816244402031689728, 4831355200913801216].getD k 0
theorem powW_step : ∀ k : Fin 15, floatBits .mul .f64 (powW k.val) 4621819117588971520 = some (powW (k.val + 1)) := by decide +kernel
def readsPos (d : Datum) : Bool := match d with | .number s n _ => !s && n != 0 | _ => false
theorem powW_pos : ∀ k : Fin 16, readsPos (D.read (powW k.val)) = true := by decide +kernel
theorem powW_read (k : Nat) (hk : k ≤ 15) : ∃ n j, D.read (powW k) = .number false n j ∧ n ≠ 0 := by
  have h := powW_pos ⟨k, by omega⟩
  simp only at h
  generalize D.read (powW k) = d at h
  cases d with
  | number s n j =>
    simp only [readsPos, Bool.and_eq_true, Bool.not_eq_true', bne_iff_ne, ne_eq] at h
    exact ⟨n, j, by rw [h.1], h.2⟩
  | infinity s => simp [readsPos] at h
  | nan s f => simp [readsPos] at h
/-! ### a NaN -/
theorem read_nan (s f : Nat) (h1 : 1 ≤ f) (h2 : f < 4503599627370496) : ∃ b g, D.read (s * 9223372036854775808 + 9218868437227405312 + f) = .nan b g := by
  unfold Format.read
  simp only [hsig, hbin, hinf, hleast]
  have h3 : (s * 9223372036854775808 + 9218868437227405312 + f) % 9223372036854775808 = 9218868437227405312 + f := by omega
  rw [h3, if_neg (by omega), if_neg (by omega), if_neg (by omega)]
  exact ⟨_, _, rfl⟩
theorem order_nan (v : Nat) (h : ∃ b g, D.read v = .nan b g) : FloatKind.f64.format.order v v = none := by
  obtain ⟨b, g, h⟩ := h
  show Format.order D _ _ = _
  unfold Format.order
  rw [h]
  rfl
theorem mul_nan (x v : Nat) (h : ∃ b g, D.read v = .nan b g) : floatBits .mul .f64 x v = none := by
  obtain ⟨b, g, h⟩ := h
  show Format.mul D _ _ = _
  unfold Format.mul
  rw [h]
  cases D.read x <;> rfl
/-! ### the two ways to the same number -/
/-- A whole number over a power of ten: its rung. -/
theorem over (m : Int) (k : Nat) (h0 : 0 ≤ m) (h1 : m < 9007199254740992) (hk : k ≤ 15) : ∃ q, q ≤ 9218868437227405312 ∧ (∀ s, floatBits .quo .f64 (D.word s (rungOf m.toNat 0)) (powW k) = some (D.word s q)) ∧ (k = 0 → q = rungOf m.toNat 0) := by
  have hr := ofInt_lt m.toNat (by omega)
  obtain ⟨n, j, hp, hn⟩ := powW_read k hk
  refine ⟨quoRung (rungOf m.toNat 0) n j, quoRung_le _ _ _, fun s => quo_word s _ _ n j hr hp hn, ?_⟩
  rintro rfl
  have h2 : D.read (powW 0) = .number false (2 ^ 52) (-52) := by
    have := read_one false
    rwa [word_false] at this
  rw [h2] at hp
  injection hp with _ e1 e2
  rw [← e1, ← e2]
  exact quo_one _ hr
theorem over_zero (k : Nat) (hk : k ≤ 15) : floatBits .quo .f64 (D.word false (rungOf 0 0)) (powW k) = some (D.word false 0) := by
  obtain ⟨n, j, hp, hn⟩ := powW_read k hk
  have hz : rungOf 0 0 = 0 := by decide
  rw [hz, quo_word false 0 _ n j (by omega) hp hn]
  have hm : magOf 0 = 0 := by decide
  unfold quoRung
  rw [hm, Nat.zero_shiftLeft, Nat.zero_div, Nat.zero_mod]
  rfl
end Go.Proofs.YtllaepgbpmiglaaGreatDoor.Floats
