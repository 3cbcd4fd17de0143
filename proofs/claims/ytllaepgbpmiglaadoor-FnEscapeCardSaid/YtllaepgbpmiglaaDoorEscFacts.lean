/- What the small functions that escape and unescape call come to: digits, hexadecimal numbers, one character of UTF-16. Conditions: the texts are ASCII where that is said. -/
import Derived.Test.YtllaepgbpmiglaaDoorQFnEscapex
import Derived.Test.YtllaepgbpmiglaaDoorEscLists
import Derived.Laws.BitsAllLaws
import Derived.Lib.Strings
namespace Go.Proofs.YtllaepgbpmiglaaDoor.EscFacts
open Go.RowKit Go.Proofs.YtllaepgbpmiglaaDoor.QFnEscape Go.Proofs.YtllaepgbpmiglaaDoorW.PrintWords Go.Proofs.YtllaepgbpmiglaaDoorW.PrintLast Go.Proofs.YtllaepgbpmiglaaDoor.Esc

theorem w64 (n : Int) (h0 : -4611686018427387904 ≤ n) (h1 : n ≤ 4611686018427387904) : wrap64 n = n := by unfold wrap64; omega

/-! ### texts as lists of numbers -/
theorem bytes_inj {a b : ByteArray} (h : a.data.toList = b.data.toList) : a = b := by
  obtain ⟨⟨la⟩⟩ := a
  obtain ⟨⟨lb⟩⟩ := b
  simp only at h
  rw [h]
theorem str_bytes (s : ByteArray) : strOfNums (bytesOf s) = s := by
  apply bytes_inj
  rw [strOfNums_data]
  unfold bytesOf
  rw [List.map_map]
  conv => rhs; rw [← List.map_id s.data.toList]
  apply List.map_congr_left
  intro b _
  simp
theorem str_append (xs ys : List Int) : strOfNums xs ++ strOfNums ys = strOfNums (xs ++ ys) := by
  apply bytes_inj
  have h : (strOfNums xs ++ strOfNums ys).data.toList = (strOfNums xs).data.toList ++ (strOfNums ys).data.toList := by
    rw [← ByteArray.toList_eq, ← ByteArray.toList_eq, ← ByteArray.toList_eq]
    simp [ByteArray.toList_eq]
  rw [h, strOfNums_data, strOfNums_data, strOfNums_data, List.map_append]
theorem bytes_str (xs : List Int) (h : ∀ c ∈ xs, 0 ≤ c ∧ c < 256) : bytesOf (strOfNums xs) = xs := by
  unfold bytesOf
  rw [strOfNums_data, List.map_map]
  conv => rhs; rw [← List.map_id xs]
  apply List.map_congr_left
  intro c hc
  have := h c hc
  simp only [Function.comp_apply, id_eq, UInt8.toNat_ofNat']
  omega
theorem bytes_range (s : ByteArray) : ∀ c ∈ bytesOf s, 0 ≤ c ∧ c < 256 := by
  intro c hc
  unfold bytesOf at hc
  obtain ⟨b, _, rfl⟩ := List.mem_map.1 hc
  have := b.toNat_lt
  omega
theorem bt_getD (s : ByteArray) (i : Nat) : bt s (i : Int) = (bytesOf s).getD i 0 := by rw [← rd_bytesOf]; simp [rd]
theorem extract_bytes (s : ByteArray) (i j : Nat) : bytesOf (s.extract i j) = ((bytesOf s).drop i).take (j - i) := by
  unfold bytesOf
  rw [Lib.extract_data, List.map_take, List.map_drop]
theorem extract_one (s : ByteArray) (i : Nat) (h : i < s.size) : s.extract i (i + 1) = strOfNums [bt s i] := by
  rw [← str_bytes (s.extract i (i + 1)), extract_bytes, bt_getD]
  have hl : i < (bytesOf s).length := by rw [bytesOf_length]; exact h
  rw [List.drop_eq_getElem_cons hl, List.getD_eq_getElem?_getD, List.getElem?_eq_getElem hl, show i + 1 - i = 1 from by omega]
  rfl
theorem drop_getD (l : List Int) (i j : Nat) : (l.drop i).getD j 0 = l.getD (i + j) 0 := by simp [List.getD_eq_getElem?_getD]

/-! ### digits -/
theorem digit36_ev (c : Int) (h0 : 0 ≤ c) (h1 : c < 256) : ∃ d, Ev (fun k => spec_digit36.f k c) d ∧ (keep c = false → d = -1 ∨ c = 64) ∧
    ((0 ≤ d ∧ d ≤ 15) → hexv c = d) ∧ ((d < 0 ∨ 15 < d) → hexv c = -1) ∧ (0 ≤ d → keep c = true) ∧ (d < 0 → (keep c = true ↔ c = 42 ∨ c = 95 ∨ c = 43 ∨ c = 45 ∨ c = 46 ∨ c = 47)) := by
  have key : ∀ d, (∀ k, spec_digit36.f (k + 2) c = some d) → Ev (fun k => spec_digit36.f k c) d := fun d h => ⟨2, fun k hk => by obtain ⟨m, rfl⟩ : ∃ m, k = m + 2 := ⟨k - 2, by omega⟩; exact h m⟩
  have hk := keep_iff c
  by_cases a1 : 48 ≤ c ∧ c ≤ 57
  · refine ⟨c - 48, key _ (fun k => ?_), ?_, ?_, ?_, ?_, ?_⟩
    · simp only [spec_digit36.f, spec_digit36.j0, spec_digit36.j1]
      rw [if_pos (by omega), if_pos (by simp; omega)]
      congr 1; omega
    · intro h; rw [Bool.eq_false_iff] at h; exact absurd (hk.2 (by omega)) h
    · intro _; unfold hexv; rw [if_pos a1]
    · intro h; omega
    · intro _; exact hk.2 (by omega)
    · intro h; omega
  · by_cases a2 : 97 ≤ c ∧ c ≤ 122
    · refine ⟨c - 87, key _ (fun k => ?_), ?_, ?_, ?_, ?_, ?_⟩
      · simp only [spec_digit36.f, spec_digit36.j0, spec_digit36.j1]
        rw [if_pos (by omega), if_neg (by simp; omega), if_pos (by omega), if_pos (by simp; omega)]
        congr 1; omega
      · intro h; rw [Bool.eq_false_iff] at h; exact absurd (hk.2 (by omega)) h
      · intro h; unfold hexv; rw [if_neg a1, if_pos (by omega)]
      · intro h; unfold hexv; rw [if_neg a1, if_neg (by omega), if_neg (by omega)]
      · intro _; exact hk.2 (by omega)
      · intro h; omega
    · by_cases a3 : 65 ≤ c ∧ c ≤ 90
      · refine ⟨c - 55, key _ (fun k => ?_), ?_, ?_, ?_, ?_, ?_⟩
        · simp only [spec_digit36.f, spec_digit36.j0, spec_digit36.j1]
          rw [if_pos (by omega), if_neg (by simp; omega)]
          rw [if_neg (by omega), if_neg (by simp), if_pos (by omega), if_pos (by omega)]
          congr 1; omega
        · intro h; rw [Bool.eq_false_iff] at h; exact absurd (hk.2 (by omega)) h
        · intro h; unfold hexv; rw [if_neg a1, if_neg (by omega), if_pos (by omega)]
        · intro h; unfold hexv; rw [if_neg a1, if_neg (by omega), if_neg (by omega)]
        · intro _; exact hk.2 (by omega)
        · intro h; omega
      · refine ⟨-1, key _ (fun k => ?_), ?_, ?_, ?_, ?_, ?_⟩
        · simp only [spec_digit36.f, spec_digit36.j0, spec_digit36.j1, decide_eq_true_eq, Bool.false_eq_true, if_false]
          repeat' split
          all_goals first | rfl | (exfalso; omega)
        · intro _; exact .inl rfl
        · intro h; omega
        · intro _; unfold hexv; rw [if_neg a1, if_neg (by omega), if_neg (by omega)]
        · intro h; omega
        · intro _; rw [hk]; omega
theorem zzDigit_ev (c : Int) (h0 : 0 ≤ c) (h1 : c < 256) : Ev (fun k => otto_zzDigit.f k c) (if 0 ≤ hexv c then (hexv c, true) else (0, false)) := by
  refine ⟨2, fun k hk => ?_⟩
  obtain ⟨m, rfl⟩ : ∃ m, k = m + 2 := ⟨k - 2, by omega⟩
  simp only [otto_zzDigit.f, otto_zzDigit.j0, otto_zzDigit.j1]
  by_cases a1 : 48 ≤ c ∧ c ≤ 57
  · have e : hexv c = c - 48 := by unfold hexv; rw [if_pos a1]
    rw [e, if_pos (by omega : (0:Int) ≤ c - 48), if_pos (by omega), if_pos (by simp; omega)]
    simp; omega
  · by_cases a2 : 97 ≤ c ∧ c ≤ 102
    · have e : hexv c = c - 87 := by unfold hexv; rw [if_neg a1, if_pos a2]
      rw [e, if_pos (by omega : (0:Int) ≤ c - 87), if_pos (by omega), if_neg (by simp; omega), if_pos (by omega), if_pos (by simp; omega)]
      simp; omega
    · by_cases a3 : 65 ≤ c ∧ c ≤ 70
      · have e : hexv c = c - 55 := by unfold hexv; rw [if_neg a1, if_neg a2, if_pos a3]
        rw [e, if_pos (by omega : (0:Int) ≤ c - 55), if_pos (by omega), if_neg (by simp; omega), if_neg (by omega), if_neg (by simp), if_pos (by omega), if_pos (by omega)]
        simp; omega
      · have e : hexv c = -1 := by unfold hexv; rw [if_neg a1, if_neg a2, if_neg a3]
        rw [e, if_neg (by omega : ¬ (0:Int) ≤ -1)]
        simp only [decide_eq_true_eq, Bool.false_eq_true, if_false]
        repeat' split
        all_goals first | rfl | (exfalso; omega)

/-! ### hexadecimal numbers -/
theorem wraps_i64 (n : Int) (h₀ : 0 ≤ n) (h₁ : n < 2 ^ 62) : IntKind.i64.wrap n = n := by rw [IntKind.wrap_i64]; omega
theorem or16 (v d : Int) (h0 : 0 ≤ v) (h1 : v < 1048576) (h2 : 0 ≤ d) (h3 : d ≤ 15) : Go.bits .or .i64 (wrap64 (v * 16)) d = v * 16 + d := by
  rw [w64 _ (by omega) (by omega)]
  exact bits_join .i64 62 (by decide) wraps_i64 4 (v * 16) d (by omega) (by omega) (by omega) h2 (by omega) (by omega)
theorem or16u8 (a b : Int) (h0 : 0 ≤ a) (h1 : a ≤ 15) (h2 : 0 ≤ b) (h3 : b ≤ 15) : Go.bits .or .u8 ((a * 16) % 256) b = a * 16 + b := by
  rw [show (a * 16) % 256 = a * 16 from by omega]
  exact bits_join .u8 8 (by decide) wraps_u8 4 (a * 16) b (by omega) (by omega) (by omega) h2 (by omega) (by omega)
theorem hexes_end (s : ByteArray) (v : Int) (i : Nat) (h : s.size ≤ i) : Ev (fun k => spec_hexes.l0 k s v s.size i) v := by
  refine Ev.step (f := fun k => some v) (fun k => ?_) (Ev.now v)
  simp only [spec_hexes.l0]
  rw [if_neg (by omega)]
theorem hexes_step (s : ByteArray) (v : Int) (i : Nat) (hi : i < s.size) (hs : s.size ≤ 8) (h0 : 0 ≤ v) (h1 : v < 1048576) (r : Int)
    (hr : hexv (bt s i) < 0 → r = -1) (h : 0 ≤ hexv (bt s i) → Ev (fun k => spec_hexes.l0 k s (v * 16 + hexv (bt s i)) s.size ((i + 1 : Nat) : Int)) r) :
    Ev (fun k => spec_hexes.l0 k s v s.size i) r := by
  have rg := bt_range s i
  obtain ⟨d, hd, _, hin, hout, _, _⟩ := digit36_ev (bt s i) rg.1 (by omega)
  refine Ev.step (fun k => rfl) ?_
  simp only [spec_hexes.l0]
  have c1 : ((i : Int) < (s.size : Int)) = True := eq_true (by omega)
  have c2 : ((0 : Int) ≤ (i : Int)) = True := eq_true (by omega)
  simp only [c1, c2, if_true]
  refine Ev.bind hd ?_
  by_cases b1 : d < 0
  · have e := hr (by have := hout (.inl b1); omega)
    subst e
    simp only [b1, if_true]
    exact Ev.now _
  · by_cases b2 : d > 15
    · have e := hr (by have := hout (.inr (by omega)); omega)
      subst e
      simp only [b1, b2, if_true, if_false]
      exact Ev.now _
    · have e := hin (by omega)
      have hh := h (by omega)
      rw [e] at hh
      simp only [b1, b2, if_false]
      rw [or16 v d h0 h1 (by omega) (by omega), w64 _ (by omega) (by omega)]
      exact hh
theorem hexes2 (s : ByteArray) (hs : s.size = 2) : Ev (fun k => spec_hexes.f k s) (hex2 (bt s 0) (bt s 1)) := by
  have r0 := hexv_range (bt s 0)
  unfold spec_hexes.f
  refine hexes_step s 0 0 (by omega) (by omega) (by omega) (by omega) _ (fun h => by unfold hex2; rw [if_pos (.inl h)]) (fun g0 => ?_)
  refine hexes_step s _ 1 (by omega) (by omega) (by simp; omega) (by simp; omega) _ (fun h => by unfold hex2; rw [if_pos (.inr h)]) (fun g1 => ?_)
  have e : hex2 (bt s 0) (bt s 1) = (0 * 16 + hexv (bt s (0 : Nat))) * 16 + hexv (bt s (1 : Nat)) := by
    unfold hex2; rw [if_neg (by simp at g0 g1; omega)]; simp
  rw [e]
  exact hexes_end s _ 2 (by omega)
theorem hexes4 (s : ByteArray) (hs : s.size = 4) : Ev (fun k => spec_hexes.f k s) (hex4 (bt s 0) (bt s 1) (bt s 2) (bt s 3)) := by
  have r0 := hexv_range (bt s 0)
  have r1 := hexv_range (bt s 1)
  have r2 := hexv_range (bt s 2)
  have bad1 : hexv (bt s 0) < 0 ∨ hexv (bt s 1) < 0 → hex4 (bt s 0) (bt s 1) (bt s 2) (bt s 3) = -1 := fun h => by
    unfold hex4; rw [if_pos]; left; unfold hex2; rw [if_pos h]; omega
  have bad2 : hexv (bt s 2) < 0 ∨ hexv (bt s 3) < 0 → hex4 (bt s 0) (bt s 1) (bt s 2) (bt s 3) = -1 := fun h => by
    unfold hex4; rw [if_pos]; right; unfold hex2; rw [if_pos h]; omega
  unfold spec_hexes.f
  refine hexes_step s 0 0 (by omega) (by omega) (by omega) (by omega) _ (fun h => bad1 (.inl h)) (fun g0 => ?_)
  refine hexes_step s _ 1 (by omega) (by omega) (by simp; omega) (by simp; omega) _ (fun h => bad1 (.inr h)) (fun g1 => ?_)
  refine hexes_step s _ 2 (by omega) (by omega) (by simp at g0 g1 ⊢; omega) (by simp at g0 g1 ⊢; omega) _ (fun h => bad2 (.inl h)) (fun g2 => ?_)
  refine hexes_step s _ 3 (by omega) (by omega) (by simp at g0 g1 g2 ⊢; omega) (by simp at g0 g1 g2 ⊢; omega) _ (fun h => bad2 (.inr h)) (fun g3 => ?_)
  have e : hex4 (bt s 0) (bt s 1) (bt s 2) (bt s 3) = (((0 * 16 + hexv (bt s (0 : Nat))) * 16 + hexv (bt s (1 : Nat))) * 16 + hexv (bt s (2 : Nat))) * 16 + hexv (bt s (3 : Nat)) := by
    simp at g0 g1 g2 g3
    have e1 : hex2 (bt s 0) (bt s 1) = hexv (bt s 0) * 16 + hexv (bt s 1) := by unfold hex2; rw [if_neg (by omega)]
    have e2 : hex2 (bt s 2) (bt s 3) = hexv (bt s 2) * 16 + hexv (bt s 3) := by unfold hex2; rw [if_neg (by omega)]
    unfold hex4
    rw [e1, e2, if_neg (by omega)]
    simp
    omega
  rw [e]
  exact hexes_end s _ 4 (by omega)
theorem zzHex_end (s : ByteArray) (out : List Int) (i : Nat) (h : s.size ≤ i + 1) (hi : i ≤ 8) (he : s.size % 2 = 0) : Ev (fun k => otto_zzHex.l0 k s out i) (out, true) := by
  refine Ev.step (f := fun k => some (out, true)) (fun k => ?_) (Ev.now _)
  simp only [otto_zzHex.l0]
  rw [w64 _ (by omega) (by omega), if_neg (by omega)]
  have : (((s.size : Int) % 2) == 0) = true := by simp; omega
  rw [this]
theorem zzHex_step (s : ByteArray) (out : List Int) (i : Nat) (h : i + 1 < s.size) (hs : s.size ≤ 8) (ho : out.length ≤ 8) (r : List Int × Bool)
    (hr : hex2 (bt s i) (bt s ((i + 1 : Nat) : Int)) < 0 → r = ([], false)) (hk : 0 ≤ hex2 (bt s i) (bt s ((i + 1 : Nat) : Int)) → Ev (fun k => otto_zzHex.l0 k s (out ++ [hex2 (bt s i) (bt s ((i + 1 : Nat) : Int))]) ((i + 2 : Nat) : Int)) r) :
    Ev (fun k => otto_zzHex.l0 k s out i) r := by
  have ra := bt_range s i
  have rb := bt_range s ((i + 1 : Nat) : Int)
  have ha := zzDigit_ev (bt s i) ra.1 (by omega)
  have hb := zzDigit_ev (bt s ((i + 1 : Nat) : Int)) rb.1 (by omega)
  have va := hexv_range (bt s i)
  have vb := hexv_range (bt s ((i + 1 : Nat) : Int))
  refine Ev.step (fun k => rfl) ?_
  simp only [otto_zzHex.l0]
  have e1 : wrap64 ((i : Int) + 1) = ((i + 1 : Nat) : Int) := by rw [w64 _ (by omega) (by omega)]; omega
  have e2 : wrap64 ((i : Int) + 2) = ((i + 2 : Nat) : Int) := by rw [w64 _ (by omega) (by omega)]; omega
  have c0 : (((i + 1 : Nat) : Int) < (s.size : Int)) = True := eq_true (by omega)
  have c1 : ((i : Int) < (s.size : Int)) = True := eq_true (by omega)
  have c2 : ((0 : Int) ≤ (i : Int)) = True := eq_true (by omega)
  have c3 : ((0 : Int) ≤ ((i + 1 : Nat) : Int)) = True := eq_true (by omega)
  have c4 : (out.length < 140737488355328) = True := eq_true (by omega)
  simp only [e1, e2, c0, c1, c2, c3, c4, if_true]
  refine Ev.bind ha ?_
  refine Ev.bind hb ?_
  by_cases g1 : 0 ≤ hexv (bt s i)
  · by_cases g2 : 0 ≤ hexv (bt s ((i + 1 : Nat) : Int))
    · have e : hex2 (bt s i) (bt s ((i + 1 : Nat) : Int)) = hexv (bt s i) * 16 + hexv (bt s ((i + 1 : Nat) : Int)) := by unfold hex2; rw [if_neg (by omega)]
      have := hk (by omega)
      rw [e] at this
      simp only [g1, g2, if_true]
      rw [or16u8 _ _ g1 va.2 g2 vb.2]
      exact this
    · have := hr (by unfold hex2; rw [if_pos (.inr (by omega))]; omega)
      subst this
      simp only [g1, g2, if_true, if_false, Bool.false_eq_true]
      exact Ev.now _
  · have := hr (by unfold hex2; rw [if_pos (.inl (by omega))]; omega)
    subst this
    simp only [g1, if_false, Bool.false_eq_true]
    exact Ev.now _
theorem zzHex2 (s : ByteArray) (hs : s.size = 2) : Ev (fun k => otto_zzHex.f k s) (if 0 ≤ hex2 (bt s 0) (bt s 1) then ([hex2 (bt s 0) (bt s 1)], true) else ([], false)) := by
  unfold otto_zzHex.f
  refine zzHex_step s [] 0 (by omega) (by omega) (by simp) _ (fun h => ?_) (fun h => ?_)
  · rw [if_neg (by simp at h ⊢; omega)]
  · have h' : 0 ≤ hex2 (bt s 0) (bt s 1) := by simpa using h
    rw [if_pos h']
    exact zzHex_end s _ 2 (by omega) (by omega) (by omega)
theorem zzHex4 (s : ByteArray) (hs : s.size = 4) : Ev (fun k => otto_zzHex.f k s) (if 0 ≤ hex2 (bt s 0) (bt s 1) ∧ 0 ≤ hex2 (bt s 2) (bt s 3) then ([hex2 (bt s 0) (bt s 1), hex2 (bt s 2) (bt s 3)], true) else ([], false)) := by
  unfold otto_zzHex.f
  refine zzHex_step s [] 0 (by omega) (by omega) (by simp) _ (fun h => ?_) (fun h => ?_)
  · rw [if_neg (by simp at h ⊢; omega)]
  · have h' : 0 ≤ hex2 (bt s 0) (bt s 1) := by simpa using h
    refine zzHex_step s _ 2 (by omega) (by omega) (by simp) _ (fun g => ?_) (fun g => ?_)
    · rw [if_neg (by simp at g ⊢; omega)]
    · have g' : 0 ≤ hex2 (bt s 2) (bt s 3) := by simpa using g
      rw [if_pos ⟨h', g'⟩]
      exact zzHex_end s _ 4 (by omega) (by omega) (by omega)

/-! ### one character of UTF-16 -/
theorem decode_one (v : Int) (h0 : 0 ≤ v) (h1 : v < 128) : Ev (fun k => utf16_Decode.f k [v]) [v] := by
  refine ⟨4, fun k hk => ?_⟩
  obtain ⟨m, rfl⟩ : ∃ m, k = m + 4 := ⟨k - 4, by omega⟩
  have e : rd [v] 0 = v := rfl
  have w : wrap32 v = v := by unfold wrap32; omega
  have w1 : wrap64 (0 + 1) = 1 := w64 _ (by omega) (by omega)
  simp only [utf16_Decode.f, utf16_decode.f, utf16_decode.l0, utf16_decode.j1, e, w, w1]
  rw [if_pos (by omega), if_pos (by simp), if_pos (by omega), if_pos (by omega), if_pos (by simp; omega), if_pos (by simp), if_neg (by simp)]
  rfl
theorem runeLen_one (v : Int) (h0 : 0 ≤ v) (h1 : v < 128) : ∀ k, utf16_RuneLen.f (k + 2) v = some 1 := by
  intro k
  simp only [utf16_RuneLen.f, utf16_RuneLen.j0, utf16_RuneLen.j1]
  rw [if_pos (by omega), if_pos (by simp; omega), if_pos (by simp; omega)]
theorem encode_one (v : Int) (h0 : 0 ≤ v) (h1 : v < 128) : Ev (fun k => utf16_Encode.f k [v]) [v] := by
  have e : rd [v] 0 = v := rfl
  have w : IntKind.u16.wrap v = v := by rw [IntKind.wrap_u16]; omega
  have w1 : wrap64 (0 + 1) = 1 := w64 _ (by omega) (by omega)
  have c1 : ((0 : Int) < (([v] : List Int).length : Int)) = True := eq_true (by simp)
  have c2 : (v ≥ 65536) = False := eq_false (by omega)
  have c3 : ((1 : Int) < (([v] : List Int).length : Int)) = False := eq_false (by simp)
  have c4 : ((0 : Int) ≤ 0) = True := eq_true (by omega)
  have c5 : ((1 : Int) ≤ (([v] : List Int).length : Int)) = True := eq_true (by simp)
  have c6 : ((0 : Int) ≤ 1) = True := eq_true (by omega)
  have c8 : ((0 : Int) ≤ (([v] : List Int).length : Int)) = True := eq_true (by simp)
  have t1 : (([v] : List Int).length : Int).toNat = 1 := by simp
  have hl : Ev (fun k => utf16_RuneLen.f k v) 1 := ⟨2, fun k hk => by obtain ⟨m, rfl⟩ : ∃ m, k = m + 2 := ⟨k - 2, by omega⟩; exact runeLen_one v h0 h1 m⟩
  unfold utf16_Encode.f
  refine Ev.step (fun k => rfl) ?_
  simp only [utf16_Encode.l0, e, c1, c2, c4, if_true, if_false, w1]
  refine Ev.step (fun k => rfl) ?_
  simp only [utf16_Encode.l0, c3, c8, if_true, if_false, t1]
  refine Ev.step (fun k => rfl) ?_
  have d1 : ((0 : Int) < ((List.replicate 1 (0 : Int)).length : Int)) = True := eq_true (by simp)
  simp only [utf16_Encode.l1, e, c1, c4, d1, if_true, w1, w]
  refine Ev.bind hl ?_
  simp only [if_true]
  refine Ev.step (fun k => rfl) ?_
  have d2 : ((1 : Int) ≤ (((List.replicate 1 (0 : Int)).set (0 : Int).toNat v).length : Int)) = True := eq_true (by simp)
  simp only [utf16_Encode.l1, c3, c6, d2, if_true, if_false]
  exact Ev.now _
end Go.Proofs.YtllaepgbpmiglaaDoor.EscFacts
