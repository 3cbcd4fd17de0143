/- What the loops of unescape, of the program and of the reference, come to, for texts of ASCII of at most 20000 bytes. -/
import Derived.Test.YtllaepgbpmiglaaDoorEscLoops
namespace Go.Proofs.YtllaepgbpmiglaaDoor.UnescLoops
open Go.RowKit Go.Proofs.YtllaepgbpmiglaaDoor.QFnEscape Go.Proofs.YtllaepgbpmiglaaDoorW.PrintWords Go.Proofs.YtllaepgbpmiglaaDoorW.PrintLast Go.Proofs.YtllaepgbpmiglaaDoor.Esc Go.Proofs.YtllaepgbpmiglaaDoor.EscFacts Go.Proofs.YtllaepgbpmiglaaDoor.EscLoops

theorem step_le (l : List Int) : (Esc.step l).2 ≤ 6 := by
  unfold Esc.step
  split
  · split
    · simp
    · split <;> simp
  · simp
theorem here (s : ByteArray) (i j : Nat) : ((bytesOf s).drop i).getD j 0 = bt s ((i + j : Nat) : Int) := by rw [drop_getD, bt_getD]
theorem len (s : ByteArray) (i : Nat) : ((bytesOf s).drop i).length = s.size - i := by rw [List.length_drop, bytesOf_length]
/-- The step at place i, in the text's own bytes. -/
theorem step_at (s : ByteArray) (i : Nat) : Esc.step ((bytesOf s).drop i) =
    if bt s (i : Int) = 37 then
      if 6 ≤ s.size - i ∧ bt s ((i + 1 : Nat) : Int) = 117 ∧ 0 ≤ hex4 (bt s ((i + 2 : Nat) : Int)) (bt s ((i + 3 : Nat) : Int)) (bt s ((i + 4 : Nat) : Int)) (bt s ((i + 5 : Nat) : Int)) then (hex4 (bt s ((i + 2 : Nat) : Int)) (bt s ((i + 3 : Nat) : Int)) (bt s ((i + 4 : Nat) : Int)) (bt s ((i + 5 : Nat) : Int)), 6)
      else if 3 ≤ s.size - i ∧ 0 ≤ hex2 (bt s ((i + 1 : Nat) : Int)) (bt s ((i + 2 : Nat) : Int)) then (hex2 (bt s ((i + 1 : Nat) : Int)) (bt s ((i + 2 : Nat) : Int)), 3)
      else (37, 1)
    else (bt s (i : Int), 1) := by
  unfold Esc.step
  rw [here, here, here, here, here, here, len]
  rfl
theorem hex2_u (b : Int) : hex2 117 b = -1 := by unfold hex2; rw [if_pos (.inl (by decide))]
theorem ex_bt (s : ByteArray) (a n j : Nat) (hj : j < n) : bt (s.extract (a : Int).toNat ((a + n : Nat) : Int).toNat) (j : Int) = bt s ((a + j : Nat) : Int) := by
  rw [bt_getD, bt_getD, extract_bytes]
  rw [show (a : Int).toNat = a from by omega, show ((a + n : Nat) : Int).toNat = a + n from by omega, List.getD_eq_getElem?_getD, List.getD_eq_getElem?_getD, List.getElem?_take_of_lt (by omega), List.getElem?_drop]
theorem ex_size (s : ByteArray) (a n : Nat) (h : a + n ≤ s.size) : (s.extract (a : Int).toNat ((a + n : Nat) : Int).toNat).size = n := by rw [ByteArray.size_extract]; omega
theorem hexes2_at (s : ByteArray) (a : Nat) (h : a + 2 ≤ s.size) : Ev (fun k => spec_hexes.f k (s.extract (a : Int).toNat ((a + 2 : Nat) : Int).toNat)) (hex2 (bt s (a : Int)) (bt s ((a + 1 : Nat) : Int))) := by
  have := hexes2 _ (ex_size s a 2 h)
  have e0 := ex_bt s a 2 0 (by omega)
  have e1 := ex_bt s a 2 1 (by omega)
  rwa [show (0 : Int) = ((0 : Nat) : Int) from rfl, show (1 : Int) = ((1 : Nat) : Int) from rfl, e0, e1] at this
theorem hexes4_at (s : ByteArray) (a : Nat) (h : a + 4 ≤ s.size) : Ev (fun k => spec_hexes.f k (s.extract (a : Int).toNat ((a + 4 : Nat) : Int).toNat)) (hex4 (bt s (a : Int)) (bt s ((a + 1 : Nat) : Int)) (bt s ((a + 2 : Nat) : Int)) (bt s ((a + 3 : Nat) : Int))) := by
  have := hexes4 _ (ex_size s a 4 h)
  have e0 := ex_bt s a 4 0 (by omega)
  have e1 := ex_bt s a 4 1 (by omega)
  have e2 := ex_bt s a 4 2 (by omega)
  have e3 := ex_bt s a 4 3 (by omega)
  rwa [show (0 : Int) = ((0 : Nat) : Int) from rfl, show (1 : Int) = ((1 : Nat) : Int) from rfl, show (2 : Int) = ((2 : Nat) : Int) from rfl, show (3 : Int) = ((3 : Nat) : Int) from rfl, e0, e1, e2, e3] at this
theorem zz2_at (s : ByteArray) (a : Nat) (h : a + 2 ≤ s.size) : Ev (fun k => otto_zzHex.f k (s.extract (a : Int).toNat ((a + 2 : Nat) : Int).toNat)) (if 0 ≤ hex2 (bt s (a : Int)) (bt s ((a + 1 : Nat) : Int)) then ([hex2 (bt s (a : Int)) (bt s ((a + 1 : Nat) : Int))], true) else ([], false)) := by
  have := zzHex2 _ (ex_size s a 2 h)
  have e0 := ex_bt s a 2 0 (by omega)
  have e1 := ex_bt s a 2 1 (by omega)
  rwa [show bt (s.extract (a : Int).toNat ((a + 2 : Nat) : Int).toNat) 0 = bt s (a : Int) from e0, show bt (s.extract (a : Int).toNat ((a + 2 : Nat) : Int).toNat) 1 = bt s ((a + 1 : Nat) : Int) from e1] at this
theorem zz4_at (s : ByteArray) (a : Nat) (h : a + 4 ≤ s.size) : Ev (fun k => otto_zzHex.f k (s.extract (a : Int).toNat ((a + 4 : Nat) : Int).toNat))
    (if 0 ≤ hex2 (bt s (a : Int)) (bt s ((a + 1 : Nat) : Int)) ∧ 0 ≤ hex2 (bt s ((a + 2 : Nat) : Int)) (bt s ((a + 3 : Nat) : Int)) then ([hex2 (bt s (a : Int)) (bt s ((a + 1 : Nat) : Int)), hex2 (bt s ((a + 2 : Nat) : Int)) (bt s ((a + 3 : Nat) : Int))], true) else ([], false)) := by
  have := zzHex4 _ (ex_size s a 4 h)
  have e0 := ex_bt s a 4 0 (by omega)
  have e1 := ex_bt s a 4 1 (by omega)
  have e2 := ex_bt s a 4 2 (by omega)
  have e3 := ex_bt s a 4 3 (by omega)
  rwa [show bt (s.extract (a : Int).toNat ((a + 4 : Nat) : Int).toNat) 0 = bt s (a : Int) from e0, show bt (s.extract (a : Int).toNat ((a + 4 : Nat) : Int).toNat) 1 = bt s ((a + 1 : Nat) : Int) from e1,
    show bt (s.extract (a : Int).toNat ((a + 4 : Nat) : Int).toNat) 2 = bt s ((a + 2 : Nat) : Int) from e2, show bt (s.extract (a : Int).toNat ((a + 4 : Nat) : Int).toNat) 3 = bt s ((a + 3 : Nat) : Int) from e3] at this

/-! ### the reference -/
section
variable (s : ByteArray) (hs : s.size ≤ 20000) (i : Nat) (hi : i < s.size) (ys : List Int) (hy : ys.length ≤ i)
include hs hi hy
theorem spec_plain (x6 x7 : Int) (r : ByteArray × Bool) (h : Ev (fun k => spec_Unescape.l0 k s (strOfNums (ys ++ [bt s (i : Int)])) ((i + 1 : Nat) : Int)) r) : Ev (fun k => spec_Unescape.j5 k s (strOfNums ys) i x6 x7 true) r := by
  have c3 : wrap64 ((i : Int) + 1) = ((i + 1 : Nat) : Int) := by rw [w64 _ (by omega) (by omega)]; rfl
  have ex : s.extract (i : Int).toNat (((i + 1 : Nat) : Int).toNat) = strOfNums [bt s (i : Int)] := by
    rw [show (i : Int).toNat = i from by omega, show ((i + 1 : Nat) : Int).toNat = i + 1 from by omega]
    exact extract_one s i (by omega)
  have c6 : ((strOfNums ys).size + (strOfNums [bt s (i : Int)]).size ≤ 9223372036854775807) = True := eq_true (by rw [strOfNums_size, strOfNums_size]; simp; omega)
  have c2 : ((0 : Int) ≤ (i : Int)) = True := eq_true (by omega)
  have c4 : ((i : Int) ≤ ((i + 1 : Nat) : Int)) = True := eq_true (by omega)
  have c5 : (((i + 1 : Nat) : Int) ≤ (s.size : Int)) = True := eq_true (by omega)
  refine Ev.step (fun k => rfl) ?_
  simp only [spec_Unescape.j5, c2, c3, c4, c5, ex, c6, str_append, if_true]
  exact h
theorem spec_none (x6 : Int) (x6' : Int) (r : ByteArray × Bool) (h : Ev (fun k => spec_Unescape.l0 k s (strOfNums (ys ++ [bt s (i : Int)])) ((i + 1 : Nat) : Int)) r) : Ev (fun k => spec_Unescape.j4 k s (strOfNums ys) i x6 0) r ∧ Ev (fun k => spec_Unescape.j2 k s (strOfNums ys) i x6' 0) r := by
  have h4 : ∀ x6, Ev (fun k => spec_Unescape.j4 k s (strOfNums ys) i x6 0) r := fun x6 => by
    refine Ev.step (fun k => rfl) ?_
    simp only [spec_Unescape.j4, if_true]
    exact spec_plain s hs i hi ys hy x6 0 r h
  refine ⟨h4 x6, ?_⟩
  refine Ev.step (fun k => rfl) ?_
  simp only [spec_Unescape.j2, show ((0 : Int) = 5) = False from eq_false (by omega), if_false]
  refine Ev.step (fun k => rfl) ?_
  simp only [spec_Unescape.j3, Bool.false_eq_true, if_false]
  exact h4 x6'
/-- A value has been read: n + 1 bytes. -/
theorem spec_value (v : Int) (n : Nat) (hn : n = 2 ∨ n = 5) (hv : -1 ≤ v) (r : ByteArray × Bool)
    (h0 : v < 0 → Ev (fun k => spec_Unescape.l0 k s (strOfNums (ys ++ [bt s (i : Int)])) ((i + 1 : Nat) : Int)) r) (h1 : 128 ≤ v → r = (⟨#[]⟩, false))
    (h2 : 0 ≤ v → v < 128 → Ev (fun k => spec_Unescape.l0 k s (strOfNums (ys ++ [v])) ((i + (n + 1) : Nat) : Int)) r) : Ev (fun k => spec_Unescape.j2 k s (strOfNums ys) i v (n : Int)) r := by
  have main : ∀ (_ : n = 5 → 0 ≤ v), Ev (fun k => spec_Unescape.j4 k s (strOfNums ys) i v (n : Int)) r := fun h5 => by
    refine Ev.step (fun k => rfl) ?_
    simp only [spec_Unescape.j4, show ((n : Int) = 0) = False from eq_false (by omega), if_false]
    by_cases hneg : v < 0
    · rw [decide_eq_true hneg]
      exact spec_plain s hs i hi ys hy v n r (h0 hneg)
    · rw [decide_eq_false hneg]
      refine Ev.step (fun k => rfl) ?_
      by_cases hbig : v ≥ 128
      · have := h1 hbig
        subst this
        simp only [spec_Unescape.j5, hbig, Bool.false_eq_true, if_true, if_false]
        exact Ev.now _
      · have e : v % 256 = v := by omega
        have c6 : ((strOfNums ys).size + (strOfNums [v]).size ≤ 9223372036854775807) = True := eq_true (by rw [strOfNums_size, strOfNums_size]; simp; omega)
        have c7 : wrap64 (wrap64 ((i : Int) + (n : Int)) + 1) = ((i + (n + 1) : Nat) : Int) := by rw [w64 ((i : Int) + (n : Int)) (by omega) (by omega), w64 _ (by omega) (by omega)]; omega
        simp only [spec_Unescape.j5, hbig, Bool.false_eq_true, if_false, Option.bind_some, e, c6, c7, str_append, if_true]
        exact h2 (by omega) (by omega)
  refine Ev.step (fun k => rfl) ?_
  simp only [spec_Unescape.j2]
  rcases hn with rfl | rfl
  · simp only [show (((2 : Nat) : Int) = 5) = False from eq_false (by omega), if_false]
    refine Ev.step (fun k => rfl) ?_
    simp only [spec_Unescape.j3, Bool.false_eq_true, if_false]
    exact main (fun h => by omega)
  · simp only [show (((5 : Nat) : Int) = 5) = True from eq_true (by omega), if_true]
    refine Ev.step (fun k => rfl) ?_
    by_cases hneg : v < 0
    · rw [decide_eq_true hneg]
      simp only [spec_Unescape.j3, if_true]
      exact (spec_none s hs i hi ys hy (-1) 0 r (h0 hneg)).1
    · rw [decide_eq_false hneg]
      simp only [spec_Unescape.j3, Bool.false_eq_true, if_false]
      exact main (fun _ => by omega)
theorem spec_next (hb : bt s (i : Int) < 128) (r : ByteArray × Bool) (h1 : 128 ≤ (Esc.step ((bytesOf s).drop i)).1 → r = (⟨#[]⟩, false))
    (h2 : (Esc.step ((bytesOf s).drop i)).1 < 128 → Ev (fun k => spec_Unescape.l0 k s (strOfNums (ys ++ [(Esc.step ((bytesOf s).drop i)).1])) ((i + (Esc.step ((bytesOf s).drop i)).2 : Nat) : Int)) r) :
    Ev (fun k => spec_Unescape.l0 k s (strOfNums ys) i) r := by
  rw [step_at] at h1 h2
  have c1 : ((i : Int) < (s.size : Int)) = True := eq_true (by omega)
  have c2 : ((0 : Int) ≤ (i : Int)) = True := eq_true (by omega)
  refine Ev.step (fun k => rfl) ?_
  simp only [spec_Unescape.l0, c1, c2, if_true]
  by_cases h37 : bt s (i : Int) = 37
  · simp only [h37, if_true] at h1 h2 ⊢
    have w1 : wrap64 ((i : Int) + 1) = ((i + 1 : Nat) : Int) := by rw [w64 _ (by omega) (by omega)]; rfl
    have w2 : wrap64 ((i : Int) + 2) = ((i + 2 : Nat) : Int) := by rw [w64 _ (by omega) (by omega)]; rfl
    have w3 : wrap64 ((i : Int) + 3) = ((i + 1 + 2 : Nat) : Int) := by rw [w64 _ (by omega) (by omega)]; omega
    have w5 : wrap64 ((i : Int) + 5) = ((i + 5 : Nat) : Int) := by rw [w64 _ (by omega) (by omega)]; rfl
    have w6 : wrap64 ((i : Int) + 6) = ((i + 2 + 4 : Nat) : Int) := by rw [w64 _ (by omega) (by omega)]; omega
    have tail : ¬ (6 ≤ s.size - i ∧ bt s ((i + 1 : Nat) : Int) = 117) → Ev (fun k => spec_Unescape.j1 k s (strOfNums ys) i 0 0 false) r := by
      intro hno
      rw [if_neg (fun h => hno ⟨h.1, h.2.1⟩)] at h1 h2
      refine Ev.step (fun k => rfl) ?_
      simp only [spec_Unescape.j1, Bool.false_eq_true, if_false, c1, c2, h37, if_true, w2]
      by_cases h3 : 3 ≤ s.size - i
      · have d1 : (((i + 2 : Nat) : Int) < (s.size : Int)) = True := eq_true (by omega)
        have d2 : ((0 : Int) ≤ ((i + 1 : Nat) : Int)) = True := eq_true (by omega)
        have d3 : (((i + 1 : Nat) : Int) ≤ ((i + 1 + 2 : Nat) : Int)) = True := eq_true (by omega)
        have d4 : (((i + 1 + 2 : Nat) : Int) ≤ (s.size : Int)) = True := eq_true (by omega)
        simp only [d1, w1, w3, d2, d3, d4, if_true]
        refine Ev.bind (hexes2_at s (i + 1) (by omega)) ?_
        have rg := hex2_range (bt s ((i + 1 : Nat) : Int)) (bt s ((i + 1 + 1 : Nat) : Int))
        refine spec_value s hs i hi ys hy _ 2 (.inl rfl) rg.1 r (fun h => ?_) (fun h => ?_) (fun g0 g1 => ?_)
        · rw [if_neg (by rintro ⟨_, h'⟩; exact absurd h' (by rw [show i + 2 = i + 1 + 1 from rfl]; omega))] at h2
          rw [h37]; exact h2 (by show (37 : Int) < 128; omega)
        · have hh : 3 ≤ s.size - i ∧ 0 ≤ hex2 (bt s ((i + 1 : Nat) : Int)) (bt s ((i + 2 : Nat) : Int)) := ⟨h3, by rw [show i + 2 = i + 1 + 1 from rfl]; omega⟩
          rw [if_pos hh] at h1
          exact h1 h
        · have hh : 3 ≤ s.size - i ∧ 0 ≤ hex2 (bt s ((i + 1 : Nat) : Int)) (bt s ((i + 2 : Nat) : Int)) := ⟨h3, g0⟩
          rw [if_pos hh] at h2
          exact h2 g1
      · have d1 : (((i + 2 : Nat) : Int) < (s.size : Int)) = False := eq_false (by omega)
        simp only [d1, if_false]
        rw [if_neg (fun h => h3 h.1)] at h2
        refine (spec_none s hs i hi ys hy 0 0 r ?_).2
        rw [h37]; exact h2 (by show (37 : Int) < 128; omega)
    by_cases h6 : 6 ≤ s.size - i
    · have d1 : (((i + 5 : Nat) : Int) < (s.size : Int)) = True := eq_true (by omega)
      have d2 : ((0 : Int) ≤ ((i + 1 : Nat) : Int)) = True := eq_true (by omega)
      have d3 : (((i + 1 : Nat) : Int) < (s.size : Int)) = True := eq_true (by omega)
      simp only [w5, d1, w1, d2, d3, if_true]
      by_cases hu : bt s ((i + 1 : Nat) : Int) = 117
      · rw [beq_iff_eq.2 hu]
        refine Ev.step (fun k => rfl) ?_
        have d4 : ((0 : Int) ≤ ((i + 2 : Nat) : Int)) = True := eq_true (by omega)
        have d5 : (((i + 2 : Nat) : Int) ≤ ((i + 2 + 4 : Nat) : Int)) = True := eq_true (by omega)
        have d6 : (((i + 2 + 4 : Nat) : Int) ≤ (s.size : Int)) = True := eq_true (by omega)
        simp only [spec_Unescape.j1, w2, w6, d4, d5, d6, if_true]
        refine Ev.bind (hexes4_at s (i + 2) (by omega)) ?_
        have rg := hex4_range (bt s ((i + 2 : Nat) : Int)) (bt s ((i + 2 + 1 : Nat) : Int)) (bt s ((i + 2 + 2 : Nat) : Int)) (bt s ((i + 2 + 3 : Nat) : Int))
        refine spec_value s hs i hi ys hy _ 5 (.inr rfl) rg.1 r (fun h => ?_) (fun h => ?_) (fun g0 g1 => ?_)
        · rw [if_neg (by rintro ⟨_, _, h'⟩; exact absurd h' (by rw [show i + 3 = i + 2 + 1 from rfl, show i + 4 = i + 2 + 2 from rfl, show i + 5 = i + 2 + 3 from rfl]; omega)), hu, hex2_u, if_neg (by omega)] at h2
          rw [h37]; exact h2 (by show (37 : Int) < 128; omega)
        · have hh : 6 ≤ s.size - i ∧ bt s ((i + 1 : Nat) : Int) = 117 ∧ 0 ≤ hex4 (bt s ((i + 2 : Nat) : Int)) (bt s ((i + 3 : Nat) : Int)) (bt s ((i + 4 : Nat) : Int)) (bt s ((i + 5 : Nat) : Int)) := ⟨h6, hu, by rw [show i + 3 = i + 2 + 1 from rfl, show i + 4 = i + 2 + 2 from rfl, show i + 5 = i + 2 + 3 from rfl]; omega⟩
          rw [if_pos hh] at h1
          exact h1 h
        · have hh : 6 ≤ s.size - i ∧ bt s ((i + 1 : Nat) : Int) = 117 ∧ 0 ≤ hex4 (bt s ((i + 2 : Nat) : Int)) (bt s ((i + 3 : Nat) : Int)) (bt s ((i + 4 : Nat) : Int)) (bt s ((i + 5 : Nat) : Int)) := ⟨h6, hu, g0⟩
          rw [if_pos hh] at h2
          exact h2 g1
      · rw [beq_eq_false_iff_ne.2 hu]
        exact tail (fun h => hu h.2)
    · have d1 : (((i + 5 : Nat) : Int) < (s.size : Int)) = False := eq_false (by omega)
      simp only [w5, d1, if_false]
      exact tail (fun h => h6 h.1)
  · simp only [h37, if_false] at h1 h2 ⊢
    refine Ev.step (fun k => rfl) ?_
    simp only [spec_Unescape.j1, Bool.false_eq_true, if_false, c1, c2, h37, if_true]
    exact (spec_none s hs i hi ys hy 0 0 r (h2 hb)).2
end
theorem spec_unescape_loop (s : ByteArray) (hs : s.size ≤ 20000) (hn : ∀ c ∈ bytesOf s, c < 128) : ∀ (f i : Nat), s.size - i ≤ f → ∀ ys : List Int, ys.length ≤ i → i ≤ s.size + 6 →
    Ev (fun k => spec_Unescape.l0 k s (strOfNums ys) i) (match unesc f ((bytesOf s).drop i) with | some zs => (strOfNums (ys ++ zs), true) | none => (⟨#[]⟩, false)) := by
  have last : ∀ (i : Nat) (ys : List Int), s.size ≤ i → Ev (fun k => spec_Unescape.l0 k s (strOfNums ys) i) (strOfNums ys, true) := fun i ys hi => by
    refine Ev.step (f := fun _ => some (strOfNums ys, true)) (fun k => ?_) (Ev.now _)
    simp only [spec_Unescape.l0]; rw [if_neg (by omega)]
  intro f
  induction f with
  | zero =>
    intro i hi ys _ _
    simp only [unesc, List.append_nil]
    exact last i ys (by omega)
  | succ f ih =>
    intro i hi ys hy hi6
    simp only [unesc]
    by_cases he : (bytesOf s).drop i = []
    · rw [if_pos he]
      simp only [List.append_nil]
      have := congrArg List.length he
      rw [len] at this
      exact last i ys (by simp at this; omega)
    · rw [if_neg he]
      have hlt : i < s.size := by
        rcases Nat.lt_or_ge i s.size with h | h
        · exact h
        · exact absurd (List.drop_of_length_le (by rw [bytesOf_length]; exact h)) he
      have hb : bt s (i : Int) < 128 := by
        have hi' : i < (bytesOf s).length := by rw [bytesOf_length]; omega
        rw [bt_getD, List.getD_eq_getElem?_getD, List.getElem?_eq_getElem hi']
        exact hn _ (List.getElem_mem hi')
      have h1 := step_size ((bytesOf s).drop i)
      have h6 : (Esc.step ((bytesOf s).drop i)).2 ≤ 6 := step_le _
      refine spec_next s hs i hlt ys hy hb _ (fun h => ?_) (fun h => ?_)
      · rw [if_pos h]
      · rw [if_neg (by omega)]
        have := ih (i + (Esc.step ((bytesOf s).drop i)).2) (by omega) (ys ++ [(Esc.step ((bytesOf s).drop i)).1]) (by rw [List.length_append, List.length_singleton]; omega) (by omega)
        rw [← List.drop_drop] at this
        cases hu : unesc f (((bytesOf s).drop i).drop (Esc.step ((bytesOf s).drop i)).2) with
        | none => rw [hu] at this; simpa using this
        | some zs => rw [hu] at this; simpa using this
theorem spec_unescape_ev (s : ByteArray) (hs : s.size ≤ 20000) (hn : ∀ c ∈ bytesOf s, c < 128) : Ev (fun k => spec_Unescape.f k s) (match unesc s.size (bytesOf s) with | some zs => (strOfNums zs, true) | none => (⟨#[]⟩, false)) := by
  have h := spec_unescape_loop s hs hn s.size 0 (by omega) [] (by simp) (by omega)
  exact h

/-! ### the program -/
section
variable (s : ByteArray) (hs : s.size ≤ 20000) (i : Nat) (hi : i < s.size) (ys : List Int) (hy : ys.length ≤ i)
include hs hi hy
theorem otto_next (hb : bt s (i : Int) < 128) (r : ByteArray) (h1 : (Esc.step ((bytesOf s).drop i)).1 < 128)
    (h2 : Ev (fun k => otto_builtinUnescape.l0 k s (ys ++ [(Esc.step ((bytesOf s).drop i)).1]) s.size ((i + (Esc.step ((bytesOf s).drop i)).2 : Nat) : Int)) r) :
    Ev (fun k => otto_builtinUnescape.l0 k s ys s.size i) r := by
  rw [step_at] at h1 h2
  have rg0 := bt_range s (i : Int)
  have c1 : ((i : Int) < (s.size : Int)) = True := eq_true (by omega)
  have c2 : ((0 : Int) ≤ (i : Int)) = True := eq_true (by omega)
  have lim : (ys.length < 35184372088832) = True := eq_true (by omega)
  have w1 : wrap64 ((i : Int) + 1) = ((i + 1 : Nat) : Int) := by rw [w64 _ (by omega) (by omega)]; rfl
  refine Ev.step (fun k => rfl) ?_
  simp only [otto_builtinUnescape.l0, c1, c2, if_true]
  by_cases h37 : bt s (i : Int) = 37
  · simp only [h37, if_true] at h1 h2 ⊢
    have w2 : wrap64 ((i : Int) + 2) = ((i + 2 : Nat) : Int) := by rw [w64 _ (by omega) (by omega)]; rfl
    have w3 : wrap64 ((i : Int) + 3) = ((i + 1 + 2 : Nat) : Int) := by rw [w64 _ (by omega) (by omega)]; omega
    have w6 : wrap64 ((i : Int) + 6) = ((i + 2 + 4 : Nat) : Int) := by rw [w64 _ (by omega) (by omega)]; omega
    have m6 : wrap64 ((s.size : Int) - 6) = (s.size : Int) - 6 := w64 _ (by omega) (by omega)
    have m3 : wrap64 ((s.size : Int) - 3) = (s.size : Int) - 3 := w64 _ (by omega) (by omega)
    have w37 : wrap32 37 = 37 := by unfold wrap32; omega
    have tail : ¬ (6 ≤ s.size - i ∧ bt s ((i + 1 : Nat) : Int) = 117 ∧ 0 ≤ hex4 (bt s ((i + 2 : Nat) : Int)) (bt s ((i + 3 : Nat) : Int)) (bt s ((i + 4 : Nat) : Int)) (bt s ((i + 5 : Nat) : Int))) → Ev (fun k => otto_builtinUnescape.j2 k s ys s.size i) r := by
      intro hno
      rw [if_neg hno] at h1 h2
      refine Ev.step (fun k => rfl) ?_
      simp only [otto_builtinUnescape.j2, m3, c1, c2, h37, w37, w1]
      by_cases h3 : 3 ≤ s.size - i
      · have d1 : ((i : Int) ≤ (s.size : Int) - 3) = True := eq_true (by omega)
        have d2 : ((0 : Int) ≤ ((i + 1 : Nat) : Int)) = True := eq_true (by omega)
        have d3 : (((i + 1 : Nat) : Int) ≤ ((i + 1 + 2 : Nat) : Int)) = True := eq_true (by omega)
        have d4 : (((i + 1 + 2 : Nat) : Int) ≤ (s.size : Int)) = True := eq_true (by omega)
        simp only [d1, w3, d2, d3, d4, if_true]
        refine Ev.bind (zz2_at s (i + 1) (by omega)) ?_
        have rg := hex2_range (bt s ((i + 1 : Nat) : Int)) (bt s ((i + 1 + 1 : Nat) : Int))
        by_cases g0 : 0 ≤ hex2 (bt s ((i + 1 : Nat) : Int)) (bt s ((i + 1 + 1 : Nat) : Int))
        · have hh : 3 ≤ s.size - i ∧ 0 ≤ hex2 (bt s ((i + 1 : Nat) : Int)) (bt s ((i + 2 : Nat) : Int)) := ⟨h3, g0⟩
          rw [if_pos hh] at h1 h2
          have e1 : rd [hex2 (bt s ((i + 1 : Nat) : Int)) (bt s ((i + 1 + 1 : Nat) : Int))] 0 = hex2 (bt s ((i + 1 : Nat) : Int)) (bt s ((i + 1 + 1 : Nat) : Int)) := rfl
          have e2 : IntKind.u16.wrap (hex2 (bt s ((i + 1 : Nat) : Int)) (bt s ((i + 1 + 1 : Nat) : Int))) = hex2 (bt s ((i + 1 : Nat) : Int)) (bt s ((i + 1 + 1 : Nat) : Int)) := by rw [IntKind.wrap_u16]; omega
          have d5 : ((0 : Int) < (([hex2 (bt s ((i + 1 : Nat) : Int)) (bt s ((i + 1 + 1 : Nat) : Int))] : List Int).length : Int)) = True := eq_true (by simp)
          rw [if_pos g0]
          simp only [if_true, d5, e1, e2]
          refine Ev.bind (decode_one _ g0 h1) ?_
          simp only [if_true, d5, e1, lim]
          exact h2
        · rw [if_neg (fun h => g0 h.2)] at h2
          rw [if_neg g0]
          simp only [Bool.false_eq_true, if_false, lim, if_true]
          exact h2
      · rw [if_neg (fun h => h3 h.1)] at h2
        have d1 : ((i : Int) ≤ (s.size : Int) - 3) = False := eq_false (by omega)
        simp only [d1, if_false, lim, if_true]
        exact h2
    by_cases h6 : 6 ≤ s.size - i
    · have d1 : ((i : Int) ≤ (s.size : Int) - 6) = True := eq_true (by omega)
      have d2 : ((0 : Int) ≤ ((i + 1 : Nat) : Int)) = True := eq_true (by omega)
      have d3 : (((i + 1 : Nat) : Int) < (s.size : Int)) = True := eq_true (by omega)
      simp only [m6, d1, w1, d2, d3, if_true]
      by_cases hu : bt s ((i + 1 : Nat) : Int) = 117
      · rw [beq_iff_eq.2 hu]
        refine Ev.step (fun k => rfl) ?_
        have d4 : ((0 : Int) ≤ ((i + 2 : Nat) : Int)) = True := eq_true (by omega)
        have d5 : (((i + 2 : Nat) : Int) ≤ ((i + 2 + 4 : Nat) : Int)) = True := eq_true (by omega)
        have d6 : (((i + 2 + 4 : Nat) : Int) ≤ (s.size : Int)) = True := eq_true (by omega)
        simp only [otto_builtinUnescape.j1, w2, w6, d4, d5, d6, if_true]
        refine Ev.bind (zz4_at s (i + 2) (by omega)) ?_
        have ra := hex2_range (bt s ((i + 2 : Nat) : Int)) (bt s ((i + 2 + 1 : Nat) : Int))
        have rb := hex2_range (bt s ((i + 2 + 2 : Nat) : Int)) (bt s ((i + 2 + 3 : Nat) : Int))
        by_cases g : 0 ≤ hex2 (bt s ((i + 2 : Nat) : Int)) (bt s ((i + 2 + 1 : Nat) : Int)) ∧ 0 ≤ hex2 (bt s ((i + 2 + 2 : Nat) : Int)) (bt s ((i + 2 + 3 : Nat) : Int))
        · have e4 : hex4 (bt s ((i + 2 : Nat) : Int)) (bt s ((i + 2 + 1 : Nat) : Int)) (bt s ((i + 2 + 2 : Nat) : Int)) (bt s ((i + 2 + 3 : Nat) : Int)) = hex2 (bt s ((i + 2 : Nat) : Int)) (bt s ((i + 2 + 1 : Nat) : Int)) * 256 + hex2 (bt s ((i + 2 + 2 : Nat) : Int)) (bt s ((i + 2 + 3 : Nat) : Int)) := by unfold hex4; rw [if_neg (by omega)]
          have hh : 6 ≤ s.size - i ∧ bt s ((i + 1 : Nat) : Int) = 117 ∧ 0 ≤ hex4 (bt s ((i + 2 : Nat) : Int)) (bt s ((i + 3 : Nat) : Int)) (bt s ((i + 4 : Nat) : Int)) (bt s ((i + 5 : Nat) : Int)) := ⟨h6, hu, by
            rw [show i + 3 = i + 2 + 1 from rfl, show i + 4 = i + 2 + 2 from rfl, show i + 5 = i + 2 + 3 from rfl, e4]; omega⟩
          rw [if_pos hh] at h1 h2
          have e4' : hex4 (bt s ((i + 2 : Nat) : Int)) (bt s ((i + 3 : Nat) : Int)) (bt s ((i + 4 : Nat) : Int)) (bt s ((i + 5 : Nat) : Int)) = hex2 (bt s ((i + 2 : Nat) : Int)) (bt s ((i + 2 + 1 : Nat) : Int)) * 256 + hex2 (bt s ((i + 2 + 2 : Nat) : Int)) (bt s ((i + 2 + 3 : Nat) : Int)) := e4
          rw [e4'] at h1 h2
          generalize hex2 (bt s ((i + 2 : Nat) : Int)) (bt s ((i + 2 + 1 : Nat) : Int)) = a at *
          generalize hex2 (bt s ((i + 2 + 2 : Nat) : Int)) (bt s ((i + 2 + 3 : Nat) : Int)) = b at *
          have e1 : rd [a, b] 0 = a := rfl
          have e2 : rd [a, b] 1 = b := rfl
          have f1 : IntKind.u16.wrap a = a := by rw [IntKind.wrap_u16]; omega
          have f2 : IntKind.u16.wrap b = b := by rw [IntKind.wrap_u16]; omega
          have f3 : IntKind.u16.wrap (a * 256) = a * 256 := by rw [IntKind.wrap_u16]; omega
          have f4 : IntKind.u16.wrap (a * 256 + b) = a * 256 + b := by rw [IntKind.wrap_u16]; omega
          have q1 : ((0 : Int) < (([a, b] : List Int).length : Int)) = True := eq_true (by simp)
          have q2 : ((1 : Int) < (([a, b] : List Int).length : Int)) = True := eq_true (by simp)
          rw [if_pos g]
          simp only [if_true, q1, q2, e1, e2, f1, f2, f3, f4]
          refine Ev.bind (decode_one _ (by omega) h1) ?_
          have q3 : ((0 : Int) < (([a * 256 + b] : List Int).length : Int)) = True := eq_true (by simp)
          have e3 : rd [a * 256 + b] 0 = a * 256 + b := rfl
          simp only [if_true, q3, e3, lim]
          exact h2
        · rw [if_neg g]
          simp only [Bool.false_eq_true, if_false]
          refine tail (fun h => ?_)
          have := h.2.2
          rw [show i + 3 = i + 2 + 1 from rfl, show i + 4 = i + 2 + 2 from rfl, show i + 5 = i + 2 + 3 from rfl] at this
          unfold hex4 at this
          rw [if_pos (by omega)] at this
          omega
      · rw [beq_eq_false_iff_ne.2 hu]
        refine Ev.step (fun k => rfl) ?_
        simp only [otto_builtinUnescape.j1, Bool.false_eq_true, if_false]
        exact tail (fun h => hu h.2.1)
    · have d1 : ((i : Int) ≤ (s.size : Int) - 6) = False := eq_false (by omega)
      simp only [m6, d1, if_false]
      refine Ev.step (fun k => rfl) ?_
      simp only [otto_builtinUnescape.j1, Bool.false_eq_true, if_false]
      exact tail (fun h => h6 h.1)
  · simp only [h37, if_false] at h1 h2 ⊢
    have : wrap32 (bt s (i : Int)) = bt s (i : Int) := by unfold wrap32; omega
    simp only [lim, if_true, this, w1]
    exact h2
end
theorem runes_go (ys : List Int) (h : ∀ c ∈ ys, 0 ≤ c ∧ c < 128) : ∀ acc : List Int, ys.foldl (fun r n => r ++ Utf8.encode n) (strOfNums acc) = strOfNums (acc ++ ys) := by
  induction ys with
  | nil => intro acc; simp
  | cons c ys ih =>
    intro acc
    have hc := h c List.mem_cons_self
    have e : Utf8.encode c = strOfNums [c] := by
      have hv : Utf8.valid c = true := by unfold Utf8.valid; simp; omega
      unfold Utf8.encode
      simp only [hv, if_true]
      rw [if_pos (by omega)]
      rfl
    rw [List.foldl_cons, e, str_append, ih (fun x hx => h x (List.mem_cons_of_mem _ hx))]
    simp
theorem runes_eq (ys : List Int) (h : ∀ c ∈ ys, 0 ≤ c ∧ c < 128) : runesBytes ys = strOfNums ys := by
  have := runes_go ys h []
  rw [List.nil_append] at this
  exact this
theorem otto_unescape_loop (s : ByteArray) (hs : s.size ≤ 20000) (hn : ∀ c ∈ bytesOf s, c < 128) : ∀ (f i : Nat), s.size - i ≤ f → ∀ ys : List Int, ys.length ≤ i → i ≤ s.size + 6 → (∀ c ∈ ys, 0 ≤ c ∧ c < 128) → ∀ zs, unesc f ((bytesOf s).drop i) = some zs →
    Ev (fun k => otto_builtinUnescape.l0 k s ys s.size i) (strOfNums (ys ++ zs)) := by
  have last : ∀ (i : Nat) (ys : List Int), s.size ≤ i → (∀ c ∈ ys, 0 ≤ c ∧ c < 128) → Ev (fun k => otto_builtinUnescape.l0 k s ys s.size i) (strOfNums ys) := fun i ys hi hr => by
    refine Ev.step (f := fun _ => some (strOfNums ys)) (fun k => ?_) (Ev.now _)
    simp only [otto_builtinUnescape.l0]; rw [if_neg (by omega), runes_eq ys hr]
  intro f
  induction f with
  | zero =>
    intro i hi ys _ _ hr zs hz
    simp only [unesc, Option.some.injEq] at hz
    subst hz
    rw [List.append_nil]
    exact last i ys (by omega) hr
  | succ f ih =>
    intro i hi ys hy hi6 hr zs hz
    simp only [unesc] at hz
    by_cases he : (bytesOf s).drop i = []
    · rw [if_pos he] at hz
      simp only [Option.some.injEq] at hz
      subst hz
      rw [List.append_nil]
      have := congrArg List.length he
      rw [len] at this
      exact last i ys (by simp at this; omega) hr
    · rw [if_neg he] at hz
      have hlt : i < s.size := by
        rcases Nat.lt_or_ge i s.size with h | h
        · exact h
        · exact absurd (List.drop_of_length_le (by rw [bytesOf_length]; exact h)) he
      have hb : bt s (i : Int) < 128 := by
        have hi' : i < (bytesOf s).length := by rw [bytesOf_length]; omega
        rw [bt_getD, List.getD_eq_getElem?_getD, List.getElem?_eq_getElem hi']
        exact hn _ (List.getElem_mem hi')
      have h1 := step_size ((bytesOf s).drop i)
      have h6 := step_le ((bytesOf s).drop i)
      by_cases hbig : 128 ≤ (Esc.step ((bytesOf s).drop i)).1
      · rw [if_pos hbig] at hz; cases hz
      · rw [if_neg hbig] at hz
        obtain ⟨ws, hw, rfl⟩ := Option.map_eq_some_iff.1 hz
        have h0 := step_nonneg ((bytesOf s).drop i) (fun c hc => (bytes_range s c (List.mem_of_mem_drop hc)).1)
        refine otto_next s hs i hlt ys hy hb _ (by omega) ?_
        rw [List.drop_drop] at hw
        have := ih (i + (Esc.step ((bytesOf s).drop i)).2) (by omega) (ys ++ [(Esc.step ((bytesOf s).drop i)).1]) (by rw [List.length_append, List.length_singleton]; omega) (by omega)
          (fun c hc => by
            rcases List.mem_append.1 hc with hc | hc
            · exact hr c hc
            · rw [List.mem_singleton.1 hc]; omega) ws hw
        simpa using this
theorem otto_unescape_ev (s : ByteArray) (hs : s.size ≤ 20000) (hn : ∀ c ∈ bytesOf s, c < 128) (zs : List Int) (hz : unesc s.size (bytesOf s) = some zs) : Ev (fun k => impl_Unescape.f k s) (strOfNums zs) := by
  have h := otto_unescape_loop s hs hn s.size 0 (by omega) [] (by simp) (by omega) (fun _ h => by cases h) zs hz
  refine Ev.bind (g := fun k => otto_ZZUnescape.f k s) (f := fun _ t => some t) (Ev.bind (g := fun k => otto_builtinUnescape.f k s) (f := fun _ t => some t) ?_ (Ev.now _)) (Ev.now _)
  refine Ev.congr (fun k => ?_) h
  unfold otto_builtinUnescape.f
  rw [if_pos (by omega), if_pos (by omega)]; rfl
end Go.Proofs.YtllaepgbpmiglaaDoor.UnescLoops
