/- parseNumber's answer stands to the reference's as the law asks. Conditions: the text is ASCII, of at most 5000 bytes; the tables and the sentinels lie as they are laid. -/
import Derived.Test.YtllaepgbpmiglaaGreatDoorParse
import Derived.Test.YtllaepgbpmiglaaGreatDoorSNum
import Derived.Test.YtllaepgbpmiglaaGreatDoorHexF
namespace Go.Proofs.YtllaepgbpmiglaaGreatDoor
open Go.RowKit Go.Proofs.YtllaepgbpmiglaaGreatDoorW.PrintWords Go.Proofs.YtllaepgbpmiglaaGreatDoor.QNum Floats
/-- The two answers: both no number; or the same word, which is a number or infinite. -/
def Agree (r v : Nat) : Prop := (IsNan r ∧ v = nanW) ∨ (v = r ∧ ∃ neg q, q ≤ 9218868437227405312 ∧ r = D.word neg q)
/-- What lies laid. -/
structure Ground (w : World) (a b pa : Addr) (cap : Nat) : Prop where
  sents : Sents w a b
  h2 : w.cell? ⟨2, 0, none⟩ = some (.iface 111 (.pointer (some a)))
  h10 : 10 < w.heap.size
  hpa : pa.block < w.heap.size
  hopt : w.cell? ⟨6, 0, none⟩ = some (.bool true)
  hinfo : w.cell? ⟨7, 0, none⟩ = some (.int .u64 52)
  htab : w.cell? ⟨10, 0, none⟩ = some (.slice (some pa) 23 cap)
  hpow : ∀ k : Nat, k ≤ 15 → w.cell? (pa.add k) = some (.float .f64 (powW k))
theorem Ground.below {w W : World} {a b pa : Addr} {cap : Nat} (h : Ground w a b pa cap) (hW : Below w.heap.size w W) : Ground W a b pa cap where
  sents := {
    hv := (hW.cell (p := ⟨1, 0, none⟩) h.sents.h1).trans h.sents.hv
    hne := h.sents.hne
    ha := by obtain ⟨c, t, e⟩ := h.sents.ha; exact ⟨c, t, (hW.block _ h.sents.la).trans e⟩
    hb := by obtain ⟨c, t, e⟩ := h.sents.hb; exact ⟨c, t, (hW.block _ h.sents.lb).trans e⟩
    h1 := Nat.lt_of_lt_of_le h.sents.h1 hW.size
    la := Nat.lt_of_lt_of_le h.sents.la hW.size
    lb := Nat.lt_of_lt_of_le h.sents.lb hW.size }
  h2 := (hW.cell (p := ⟨2, 0, none⟩) (Nat.lt_trans (by decide) h.h10)).trans h.h2
  h10 := Nat.lt_of_lt_of_le h.h10 hW.size
  hpa := Nat.lt_of_lt_of_le h.hpa hW.size
  hopt := (hW.cell (p := ⟨6, 0, none⟩) (Nat.lt_trans (by decide) h.h10)).trans h.hopt
  hinfo := (hW.cell (p := ⟨7, 0, none⟩) (Nat.lt_trans (by decide) h.h10)).trans h.hinfo
  htab := (hW.cell (p := ⟨10, 0, none⟩) h.h10).trans h.htab
  hpow := fun k hk => (hW.cell (by rw [add_block]; exact h.hpa)).trans (h.hpow k hk)
section
variable {t : ByteArray} {w : World} {a b pa : Addr} {cap : Nat} (G : Ground w a b pa cap) (h5 : t.size ≤ 5000)
include G h5
theorem none_of (h : ∀ W, Below w.heap.size w W → ∃ v n er, Reads t W v n er ∧ (er = .iface 55 (.int .i64 2) ∨ n ≠ (t.size : Int)) ∧ (n = (t.size : Int) → v = 0)) : FloatNone t w a := by
  intro W hW
  have G' := G.below hW
  obtain ⟨v, n, er, hr, he, hv⟩ := h W hW
  refine parse_float_err t (.iface 111 (.pointer (some a))) W (by omega) G'.h2 (.inr ⟨_, _, rfl⟩) (Nat.lt_trans (by decide) G'.h10) ?_
  by_cases hn : n = (t.size : Int)
  · have he' := he.resolve_right (fun h => h hn)
    have hv' := hv hn
    subst hn he' hv'
    exact inner_float t 0 _ W hr
  · exact inner_float_short t v n er W hr hn
omit G h5 in
theorem is_of (v : Nat) (h : ∀ W, Below w.heap.size w W → Reads t W v (t.size : Int) .nilIface) : FloatIs t w v :=
  fun W hW => parse_float t v W (inner_float t v _ W (h W hW))
omit G in
theorem special_no (off n : Nat) (neg : Bool) (v : Nat) (hz : 0 < t.size) (hsg : SignAt t off neg) (hn : off + n = t.size) (h : Shape (fun j => bt t ((off + j : Nat) : Int)) n 0 0 0 0 false v) : ∃ k, strconv_special.f k t = some (0, 0, false) := by
  have hf := fun h1 => shape_first (f := fun j => bt t ((off + j : Nat) : Int)) h h1
  simp only [Nat.add_zero] at hf
  rcases hsg with ⟨rfl, rfl, h43, h45⟩ | ⟨rfl, rfl, h43⟩ | ⟨rfl, rfl, h45⟩
  · have h1 := hf (by omega)
    exact (special_plain t (.inr ⟨h43, h45, h1.1, h1.2⟩)).rounds
  · refine (special_signed t h5 hz (.inl h43) ?_).rounds
    by_cases hn0 : n = 0
    · exact .inl (by rw [ByteArray.size_extract]; omega)
    · refine .inr ?_
      have e := bt_extract t 1 t.size (Nat.le_refl _) 0 (by omega)
      rw [show ((0 : Nat) : Int) = 0 from rfl] at e
      rw [e]
      exact (hf (by omega)).1
  · refine (special_signed t h5 hz (.inr h45) ?_).rounds
    by_cases hn0 : n = 0
    · exact .inl (by rw [ByteArray.size_extract]; omega)
    · refine .inr ?_
      have e := bt_extract t 1 t.size (Nat.le_refl _) 0 (by omega)
      rw [show ((0 : Nat) : Int) = 0 from rfl] at e
      rw [e]
      exact (hf (by omega)).1
/-- A decimal literal, or what is none. -/
theorem float_frac (off n : Nat) (neg : Bool) (v : Nat) (hz : 0 < t.size) (hsg : SignAt t off neg) (hn : off + n = t.size) (h : Shape (fun j => bt t ((off + j : Nat) : Int)) n 0 0 0 0 false v) :
    (v = nanW ∧ FloatNone t w a) ∨ (∃ q, q ≤ 9218868437227405312 ∧ v = D.word false q ∧ FloatIs t w (D.word neg q)) := by
  obtain ⟨ks, hs⟩ := special_no h5 off n neg v hz hsg hn h
  obtain ⟨r1, r2, r6, r7, hr, ho⟩ := rf_top t off n neg v h5 hz hn hsg h
  obtain ⟨kr, hr⟩ := hr.rounds
  rcases ho with ⟨rfl, hv⟩ | ⟨rfl, K, hK, h0, h1, h2, h3, h4⟩
  · exact .inl ⟨hv, none_of G h5 (fun W _ => ⟨0, r6, _, reads_err ks kr t 0 r6 r1 r2 0 neg false false W hs hr, .inl rfl, fun _ => rfl⟩)⟩
  · obtain ⟨q, hq, hq1, hq2⟩ := over r1 K h0 (by omega) hK
    -- the reader's answer
    have hread : ∀ W, Below w.heap.size w W → Reads t W (D.word neg q) r6 .nilIface := fun W hW => by
      have G' := G.below hW
      by_cases hm : r1 = 0
      · subst hm
        have hq0 : q = 0 := by
          have e1 := hq1 false
          have e2 := over_zero K hK
          rw [show (0 : Int).toNat = 0 from rfl, e2] at e1
          have e3 := Option.some.inj e1
          rw [word_false, word_false] at e3
          exact e3.symm
        have hz0 := reads_zero ks kr t 0 r6 r2 0 neg W hs hr (Nat.lt_trans (by decide) G'.h10) G'.hopt
        have e : (if neg = true then 9223372036854775808 else 0) = D.word neg q := by rw [hq0, word_eq]
        rw [e] at hz0
        exact hz0
      · rw [h2 hm] at hr
        refine reads_exact ks kr t 0 r6 r1 (K : Int) 0 neg pa cap _ W hs hr (by omega) (by omega) (by omega) (by omega) G'.h10 G'.hpa G'.hopt G'.hinfo G'.htab ?_
        have hrl := ofInt_lt r1.toNat (by omega)
        have hsgn : sgn neg (floatOfInt .f64 r1) = D.word neg (rungOf r1.toNat 0) := by
          rw [ofInt r1 h0]
          cases neg
          · rw [sgn_false]
          · rw [sgn_true, neg_word _ (by omega)]
        unfold Over
        rw [hsgn]
        by_cases hk : (K : Int) = 0
        · rw [if_pos hk, hq2 (by omega)]
        · rw [if_neg hk]
          refine ⟨powW K, ?_, hq1 neg⟩
          rw [show (K : Int).toNat = K from by omega]
          exact G'.hpow K hK
    by_cases h6 : r6 = (t.size : Int)
    · refine .inr ⟨q, hq, ?_, is_of _ (fun W hW => by rw [← h6]; exact hread W hW)⟩
      have e1 := h3 h6
      rw [ofInt r1 h0, hq1 false] at e1
      exact (Option.some.inj e1).symm
    · exact .inl ⟨h4 h6, none_of G h5 (fun W hW => ⟨_, r6, _, hread W hW, .inr h6, fun h => absurd h h6⟩)⟩
end
/-! ### the test for a point -/
theorem zzHas_at (t : ByteArray) (h5 : t.size ≤ 5000) : ∀ (d i : Nat), d = t.size - i → i ≤ t.size → ∃ r, Ev (fun g => otto_zzHas.l0 g t 46 i) r ∧ (r = true → ∃ j : Nat, j < t.size ∧ bt t j = 46)
  | 0, i, hd, hi => by
    have c1 : ((i : Int) < (t.size : Int)) = False := eq_false (by omega)
    refine ⟨false, Ev.step (fun g => rfl) ?_, fun h => absurd h Bool.false_ne_true⟩
    simp only [otto_zzHas.l0, c1, if_false]
    exact Ev.now _
  | d + 1, i, hd, hi => by
    have c1 : ((i : Int) < (t.size : Int)) = True := eq_true (by omega)
    have c2 : ((0 : Int) ≤ (i : Int)) = True := eq_true (by omega)
    by_cases h46 : bt t i = 46
    · refine ⟨true, Ev.step (fun g => rfl) ?_, fun _ => ⟨i, by omega, h46⟩⟩
      simp only [otto_zzHas.l0, c1, c2, if_true, eq_true h46]
      exact Ev.now _
    · obtain ⟨r, h1, h2⟩ := zzHas_at t h5 d (i + 1) (by omega) (by omega)
      have hw : wrap64 ((i : Int) + 1) = ((i + 1 : Nat) : Int) := w64 _ (by omega) (by omega)
      refine ⟨r, Ev.step (fun g => rfl) ?_, h2⟩
      simp only [otto_zzHas.l0, c1, c2, if_true, eq_false h46, if_false, hw]
      exact h1
theorem zzHas_ev (t : ByteArray) (h5 : t.size ≤ 5000) : ∃ r g, otto_zzHas.f g t 46 = some r ∧ (r = true → ∃ j : Nat, j < t.size ∧ bt t j = 46) := by
  obtain ⟨r, h1, h2⟩ := zzHas_at t h5 t.size 0 (by omega) (by omega)
  obtain ⟨g, hg⟩ := h1.rounds
  exact ⟨r, g, hg, h2⟩
/-- The program's answer. -/
abbrev Pn (s : ByteArray) (w : World) (v : Nat) : Prop := Calls Tryz.prog 17 #[.string s] w fun e w' => e = .returned (.float .f64 v) ∧ Below w.heap.size w w'
section
variable {s t : ByteArray} {w : World} {k : Nat} (hz : otto_zzTrim.f k s trimSet = some t) (h0 : 0 < t.size)
include hz h0
theorem road_is (k2 : Nat) (r : Bool) (hh : otto_zzHas.f k2 t 46 = some r) (hx : r = false → ¬ (1 < t.size ∧ bt t 0 = 48 ∧ (bt t 1 = 120 ∨ bt t 1 = 88))) (v : Nat) (hf : FloatIs t w v) : Pn s w v := by
  cases r
  · have hx := hx rfl
    by_cases h1 : 1 < t.size
    · by_cases h48 : bt t 0 = 48
      · exact pn_float_not k k2 s t v w hz h0 hh h1 h48 (fun h => hx ⟨h1, h48, .inl h⟩) (fun h => hx ⟨h1, h48, .inr h⟩) hf
      · exact pn_float_non k k2 s t v w hz h0 hh h1 h48 hf
    · exact pn_float_one k k2 s t v w hz h0 hh h1 hf
  · exact pn_float_dot k k2 s t v w hz h0 hh hf
theorem road_none (a b : Addr) (hs : Sents w a b) (k2 : Nat) (r : Bool) (hh : otto_zzHas.f k2 t 46 = some r) (hx : r = false → ¬ (1 < t.size ∧ bt t 0 = 48 ∧ (bt t 1 = 120 ∨ bt t 1 = 88))) (hf : FloatNone t w a) : Pn s w nanW := by
  cases r
  · have hx := hx rfl
    by_cases h1 : 1 < t.size
    · by_cases h48 : bt t 0 = 48
      · exact pn_none_not k k2 s t a b w hs hz h0 hh h1 h48 (fun h => hx ⟨h1, h48, .inl h⟩) (fun h => hx ⟨h1, h48, .inr h⟩) hf
      · exact pn_none_non k k2 s t a b w hs hz h0 hh h1 h48 hf
    · exact pn_none_one k k2 s t a b w hs hz h0 hh h1 hf
  · exact pn_none_dot k k2 s t a b w hs hz h0 hh hf
end
theorem low_120 : low 120 = 120 := by decide
theorem low_88 : low 88 = 120 := by decide
theorem hexd_46 : hexd 46 = -1 := by decide
theorem not_nan_nanW : IsNan nanW := read_nan 0 2251799813685249 (by omega) (by omega)
section
variable {s t : ByteArray} {w : World} {k : Nat} {a b pa : Addr} {cap : Nat} (G : Ground w a b pa cap) (hA : Asc t) (hz : otto_zzTrim.f k s trimSet = some t) (h0 : 0 < t.size)
include G hA hz h0
theorem pn_frac (off n : Nat) (neg : Bool) (v r : Nat) (hsg : SignAt t off neg) (hn : off + n = t.size) (hx : ¬ (2 < t.size ∧ bt t 0 = 48 ∧ (bt t 1 = 120 ∨ bt t 1 = 88))) (h : Shape (fun j => bt t ((off + j : Nat) : Int)) n 0 0 0 0 false v)
    (hr : floatBits .mul .f64 (D.word neg 4607182418800017408) v = some r ∨ (floatBits .mul .f64 (D.word neg 4607182418800017408) v = none ∧ IsNan r)) : ∃ v', Agree r v' ∧ Pn s w v' := by
  obtain ⟨B, k2, hh, _⟩ := zzHas_ev t hA.1
  have hroad : ¬ (1 < t.size ∧ bt t 0 = 48 ∧ (bt t 1 = 120 ∨ bt t 1 = 88)) := by
    rintro ⟨h1, h48, hxX⟩
    by_cases h2 : 2 < t.size
    · exact hx ⟨h2, h48, hxX⟩
    · rcases hsg with ⟨rfl, rfl, _, _⟩ | ⟨_, _, h43⟩ | ⟨_, _, h45⟩
      · have hsh := shape_nohex (f := fun j => bt t ((0 + j : Nat) : Int)) (fun j => bt_range t _) h (by omega) h48
        refine hsh ?_
        rcases hxX with e | e
        · exact (congrArg low e).trans low_120
        · exact (congrArg low e).trans low_88
      · omega
      · omega
  rcases float_frac G hA.1 off n neg v h0 hsg hn h with ⟨rfl, hf⟩ | ⟨q, hq, hv, hf⟩
  · refine ⟨nanW, .inl ⟨?_, rfl⟩, road_none hz h0 a b G.sents k2 B hh (fun _ => hroad) hf⟩
    rcases hr with hr | hr
    · rw [mul_nan _ _ not_nan_nanW] at hr
      cases hr
    · exact hr.2
  · rw [hv, mul_sign neg q hq] at hr
    rcases hr with hr | hr
    · have e := Option.some.inj hr
      exact ⟨_, .inr ⟨e, neg, q, hq, e.symm⟩, road_is hz h0 k2 B hh (fun _ => hroad) _ hf⟩
    · cases hr.1
theorem pn_hex (r : Nat) (h2 : 2 < t.size) (h48 : bt t 0 = 48) (hx : bt t 1 = 120 ∨ bt t 1 = 88) (h : HexShape (t.extract 2 t.size) r) : ∃ v', Agree r v' ∧ Pn s w v' := by
  obtain ⟨B, k2, hh, hB⟩ := zzHas_ev t hA.1
  have hl : low (bt t 1) = 120 := by
    rcases hx with e | e
    · rw [e]; exact low_120
    · rw [e]; exact low_88
  have hsz : (t.extract 2 t.size).size = t.size - 2 := by rw [ByteArray.size_extract]; omega
  have hat : ∀ j : Nat, j < t.size - 2 → bt (t.extract 2 t.size) (j : Int) = bt t ((2 + j : Nat) : Int) := fun j hj => bt_extract t 2 t.size (Nat.le_refl _) j hj
  have h5 := hA.1
  rcases h with ⟨h13, hall, rfl⟩ | ⟨e, he13, hes, hall, hbad, h95, h46, h112, rfl⟩
  · have hBf : B = false := by
      cases B with
      | false => rfl
      | true =>
        obtain ⟨j, hj, hj46⟩ := hB rfl
        exfalso
        by_cases hj2 : j < 2
        · have hj01 : j = 0 ∨ j = 1 := by omega
          rcases hj01 with rfl | rfl
          · have : bt t ((0 : Nat) : Int) = bt t 0 := rfl
            omega
          · have : bt t ((1 : Nat) : Int) = bt t 1 := rfl
            omega
        · have h1 := hall (j - 2) (by omega)
          rw [hat (j - 2) (by omega), show 2 + (j - 2) = j from by omega, hj46, hexd_46] at h1
          omega
    subst hBf
    have hv := hexVal_small (t.extract 2 t.size) (t.extract 2 t.size).size h13 hall
    have hint : ∀ W, Calls Tryz.prog 22 #[.string t, .int .i64 0, .int .i64 64] W fun e w' => e = .returned (.tuple #[.int .i64 (hexVal (t.extract 2 t.size) (t.extract 2 t.size).size), .nilIface]) ∧ Below W.heap.size W w' := fun W =>
      parse_int t _ W (inner_int_good t _ W h0 h48 hv.1 hv.2 (puint_good t _ W (by omega) (by omega) h48 hl rfl hall))
    refine ⟨_, .inr ⟨rfl, false, _, Nat.le_of_lt (ofInt_lt _ (by omega)), ofInt _ hv.1⟩, ?_⟩
    rcases hx with e | e
    · exact pn_int_hexx k k2 s t _ w hz h0 hh (by omega) h48 e hint
    · exact pn_int_hexX k k2 s t _ w hz h0 hh (by omega) h48 e hint
  · refine ⟨nanW, .inl ⟨not_nan_nanW, rfl⟩, ?_⟩
    cases B
    · have hint : ∀ W, Below w.heap.size w W → Calls Tryz.prog 22 #[.string t, .int .i64 0, .int .i64 64] W fun e w' => ∃ N : Nat, e = .returned (.tuple #[.int .i64 0, .iface 56 (.pointer (some ⟨N, 0, none⟩))]) ∧ Below W.heap.size W w' := fun W hW => by
        have G' := G.below hW
        exact parse_int_err t (.iface 111 (.pointer (some a))) W (by omega) G'.h2 (.inr ⟨_, _, rfl⟩) (Nat.lt_trans (by decide) G'.h10) (inner_int_bad t W h0 h48 (puint_bad t e W (by omega) h5 h48 hl hes he13 hall hbad h95))
      rcases hx with e | e
      · exact pn_intnone_hexx k k2 s t w hz h0 hh (by omega) h48 e hint
      · exact pn_intnone_hexX k k2 s t w hz h0 hh (by omega) h48 e hint
    · refine pn_none_dot k k2 s t a b w G.sents hz h0 hh ?_
      have hee : 2 + e < t.size := by omega
      have hat2 := hat e (by omega)
      rw [hat2] at hbad h95 h46 h112
      obtain ⟨r1, r2, r6, hno⟩ := hexl_no t e h5 h48 hl hee he13 (fun j hj => by rw [← hat j (by omega)]; exact hall j hj) hbad h95 h46 h112
      obtain ⟨kr, hr⟩ := hno.rounds
      obtain ⟨ks, hs⟩ := (special_plain t (.inr ⟨by omega, by omega, by rw [h48]; decide, by rw [h48]; decide⟩)).rounds
      exact none_of G h5 (fun W _ => ⟨0, r6, _, reads_err ks kr t 0 r6 r1 r2 0 false false true W hs hr, .inl rfl, fun _ => rfl⟩)
end
end Go.Proofs.YtllaepgbpmiglaaGreatDoor
