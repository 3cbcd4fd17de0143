/- What the loops of escape and unescape, of the program and of the reference, come to, for texts of ASCII of at most 20000 bytes (escape: without the sign 64). -/
import Derived.Test.YtllaepgbpmiglaaDoorEscFacts
namespace Go.Proofs.YtllaepgbpmiglaaDoor.EscLoops
open Go.RowKit Go.Proofs.YtllaepgbpmiglaaDoor.QFnEscape Go.Proofs.YtllaepgbpmiglaaDoorW.PrintWords Go.Proofs.YtllaepgbpmiglaaDoorW.PrintLast Go.Proofs.YtllaepgbpmiglaaDoor.Esc Go.Proofs.YtllaepgbpmiglaaDoor.EscFacts

theorem one_toList (v : Int) : (strOfNums [v]).toList = [UInt8.ofNat v.toNat] := by rw [ByteArray.toList_eq, strOfNums_data]; rfl
theorem one_eq (v w : Int) (h0 : 0 ≤ v) (h1 : v < 256) (g0 : 0 ≤ w) (g1 : w < 256) : (strOfNums [v]).toList = (strOfNums [w]).toList ↔ v = w := by
  rw [one_toList, one_toList]
  constructor
  · intro h
    simp only [List.cons.injEq, and_true] at h
    have := congrArg UInt8.toNat h
    simp only [UInt8.toNat_ofNat'] at this
    omega
  · rintro rfl; rfl

/-! ### tests -/
theorem ascii_loop (s : ByteArray) (hs : s.size ≤ 20000) : ∀ (d i : Nat), i + d = s.size → ∃ b, Ev (fun k => spec_ascii.l0 k s s.size i) b ∧ (b = true → ∀ j, i ≤ j → j < s.size → bt s (j : Int) < 128) := by
  intro d
  induction d with
  | zero =>
    intro i hi
    refine ⟨true, Ev.step (f := fun _ => some true) (fun k => ?_) (Ev.now _), fun _ j h1 h2 => by omega⟩
    simp only [spec_ascii.l0]; rw [if_neg (by omega)]
  | succ d ih =>
    intro i hi
    by_cases hb : bt s (i : Int) ≥ 128
    · refine ⟨false, Ev.step (f := fun _ => some false) (fun k => ?_) (Ev.now _), fun h => by cases h⟩
      simp only [spec_ascii.l0]; rw [if_pos (by omega), if_pos (by omega), if_pos (by omega), if_pos hb]
    · obtain ⟨b, hE, hB⟩ := ih (i + 1) (by omega)
      refine ⟨b, Ev.step (fun k => ?_) hE, fun h j h1 h2 => ?_⟩
      · simp only [spec_ascii.l0]; rw [if_pos (by omega), if_pos (by omega), if_pos (by omega), if_neg hb, w64 _ (by omega) (by omega)]; rfl
      · rcases Nat.lt_or_ge i j with h3 | h3
        · exact hB h j (by omega) h2
        · obtain rfl : i = j := by omega
          omega
theorem all_bytes (s : ByteArray) (P : Int → Prop) (h : ∀ j : Nat, j < s.size → P (bt s (j : Int))) : ∀ c ∈ bytesOf s, P c := by
  intro c hc
  obtain ⟨j, hj, rfl⟩ := List.getElem_of_mem hc
  have hj' : j < s.size := by rw [← bytesOf_length]; exact hj
  have := h j hj'
  rw [bt_getD, List.getD_eq_getElem?_getD, List.getElem?_eq_getElem hj] at this
  exact this
theorem ascii_ev (s : ByteArray) (hs : s.size ≤ 20000) : ∃ b, Ev (fun k => spec_ASCII.f k s) b ∧ (b = true → ∀ c ∈ bytesOf s, c < 128) := by
  obtain ⟨b, hE, hB⟩ := ascii_loop s hs s.size 0 (by omega)
  refine ⟨b, ?_, fun h => all_bytes s (· < 128) (fun j hj => hB h j (by omega) hj)⟩
  exact Ev.bind (g := fun k => spec_ascii.f k s) hE (Ev.now b)
theorem find_loop (s : ByteArray) (hs : s.size ≤ 20000) : ∀ (d i : Nat), i + d = s.size → ∃ r, Ev (fun k => spec_find64.l0 k s (⟨#[64]⟩ : ByteArray) i) r ∧ (r < 0 → ∀ j, i ≤ j → j < s.size → bt s (j : Int) ≠ 64) := by
  have h1 : ((⟨#[64]⟩ : ByteArray).size : Int) = 1 := rfl
  intro d
  induction d with
  | zero =>
    intro i hi
    refine ⟨-1, Ev.step (f := fun _ => some (-1)) (fun k => ?_) (Ev.now _), fun _ j h1 h2 => by omega⟩
    simp only [spec_find64.l0, h1]; rw [w64 _ (by omega) (by omega), if_neg (by omega)]
  | succ d ih =>
    intro i hi
    have rg := bt_range s (i : Int)
    have ex : s.extract (i : Int).toNat (((i : Int) + 1).toNat) = strOfNums [bt s (i : Int)] := by
      rw [show (i : Int).toNat = i from by omega, show ((i : Int) + 1).toNat = i + 1 from by omega]
      exact extract_one s i (by omega)
    have eq : (strOfNums [bt s (i : Int)]).toList = (⟨#[64]⟩ : ByteArray).toList ↔ bt s (i : Int) = 64 := one_eq _ 64 rg.1 (by omega) (by omega) (by omega)
    by_cases hb : bt s (i : Int) = 64
    · refine ⟨(i : Int), Ev.step (f := fun _ => some (i : Int)) (fun k => ?_) (Ev.now _), fun h => by omega⟩
      simp only [spec_find64.l0, h1]; rw [w64 _ (by omega) (by omega), if_pos (by omega), if_pos (by omega), if_pos (by omega), ex, if_pos (eq.2 hb)]
    · obtain ⟨r, hE, hR⟩ := ih (i + 1) (by omega)
      refine ⟨r, Ev.step (fun k => ?_) hE, fun h j h1 h2 => ?_⟩
      · simp only [spec_find64.l0, h1]; rw [w64 _ (by omega) (by omega), if_pos (by omega), if_pos (by omega), if_pos (by omega), ex, if_neg (fun h => hb (eq.1 h))]; rfl
      · rcases Nat.lt_or_ge i j with h3 | h3
        · exact hR h j (by omega) h2
        · obtain rfl : i = j := by omega
          exact hb
theorem holds_ev (s : ByteArray) (hs : s.size ≤ 20000) : ∃ b, Ev (fun k => spec_Holds.f k s (⟨#[64]⟩ : ByteArray)) b ∧ (b = false → ∀ c ∈ bytesOf s, c ≠ 64) := by
  obtain ⟨r, hE, hR⟩ := find_loop s hs s.size 0 (by omega)
  refine ⟨decide (r ≥ 0), ?_, fun h => all_bytes s (· ≠ 64) (fun j hj => hR (by simpa using h) j (by omega) hj)⟩
  exact Ev.bind (g := fun k => spec_find64.f k s (⟨#[64]⟩ : ByteArray) 0) hE (Ev.now _)
theorem contains_loop (x : ByteArray) (l : List ByteArray) (hl : l.length ≤ 1000) : ∀ (d i : Nat), i + d = l.length → Ev (fun k => spec_contains.l0 k x l l.length i) ((l.drop i).any fun y => y.toList == x.toList) := by
  intro d
  induction d with
  | zero =>
    intro i hi
    refine Ev.step (f := fun _ => some false) (fun k => ?_) ?_
    · simp only [spec_contains.l0]; rw [if_neg (by omega)]
    · rw [List.drop_of_length_le (by omega)]; exact Ev.now _
  | succ d ih =>
    intro i hi
    have hi' : i < l.length := by omega
    have hr : rdOf ByteArray.empty l (i : Int) = l[i] := by unfold rdOf; rw [show (i : Int).toNat = i from by omega, List.getD_eq_getElem?_getD, List.getElem?_eq_getElem hi']; rfl
    rw [List.drop_eq_getElem_cons hi', List.any_cons]
    by_cases hb : (l[i]).toList = x.toList
    · refine Ev.step (f := fun _ => some true) (fun k => ?_) ?_
      · simp only [spec_contains.l0]; rw [if_pos (by omega), if_pos (by omega), if_pos (by omega), hr, if_pos hb]
      · rw [beq_iff_eq.2 hb, Bool.true_or]; exact Ev.now _
    · rw [beq_eq_false_iff_ne.2 hb, Bool.false_or]
      refine Ev.step (fun k => ?_) (ih (i + 1) (by omega))
      simp only [spec_contains.l0]; rw [if_pos (by omega), if_pos (by omega), if_pos (by omega), hr, if_neg hb, w64 _ (by omega) (by omega)]; rfl
theorem contains_ev (c : Int) (h0 : 0 ≤ c) (h1 : c < 256) : Ev (fun k => spec_contains.f k [(⟨#[64]⟩ : ByteArray), (⟨#[42]⟩ : ByteArray), (⟨#[95]⟩ : ByteArray), (⟨#[43]⟩ : ByteArray), (⟨#[45]⟩ : ByteArray), (⟨#[46]⟩ : ByteArray), (⟨#[47]⟩ : ByteArray)] (strOfNums [c])) (decide (c = 64 ∨ c = 42 ∨ c = 95 ∨ c = 43 ∨ c = 45 ∨ c = 46 ∨ c = 47)) := by
  have h := contains_loop (strOfNums [c]) [strOfNums [64], strOfNums [42], strOfNums [95], strOfNums [43], strOfNums [45], strOfNums [46], strOfNums [47]] (by simp) 7 0 (by simp)
  have e : (([strOfNums [64], strOfNums [42], strOfNums [95], strOfNums [43], strOfNums [45], strOfNums [46], strOfNums [47]].drop 0).any fun y => y.toList == (strOfNums [c]).toList) = decide (c = 64 ∨ c = 42 ∨ c = 95 ∨ c = 43 ∨ c = 45 ∨ c = 46 ∨ c = 47) := by
    rw [Bool.eq_iff_iff]
    simp only [List.drop_zero, List.any_cons, List.any_nil, Bool.or_false, Bool.or_eq_true, beq_iff_eq, decide_eq_true_eq]
    rw [one_eq 64 c (by omega) (by omega) h0 h1, one_eq 42 c (by omega) (by omega) h0 h1, one_eq 95 c (by omega) (by omega) h0 h1, one_eq 43 c (by omega) (by omega) h0 h1, one_eq 45 c (by omega) (by omega) h0 h1, one_eq 46 c (by omega) (by omega) h0 h1, one_eq 47 c (by omega) (by omega) h0 h1]
    omega
  rw [e] at h
  exact h
theorem has_loop (s : ByteArray) (c : Int) (hs : s.size ≤ 1000) : ∀ (d i : Nat), i + d = s.size → Ev (fun k => otto_zzHas.l0 k s c i) (decide (c ∈ (bytesOf s).drop i)) := by
  intro d
  induction d with
  | zero =>
    intro i hi
    refine Ev.step (f := fun _ => some false) (fun k => ?_) ?_
    · simp only [otto_zzHas.l0]; rw [if_neg (by omega)]
    · rw [List.drop_of_length_le (by rw [bytesOf_length]; omega)]; simp only [List.not_mem_nil, decide_false]; exact Ev.now _
  | succ d ih =>
    intro i hi
    have hi' : i < (bytesOf s).length := by rw [bytesOf_length]; omega
    have hr : bt s (i : Int) = (bytesOf s)[i] := by rw [bt_getD, List.getD_eq_getElem?_getD, List.getElem?_eq_getElem hi']; rfl
    rw [List.drop_eq_getElem_cons hi']
    by_cases hb : (bytesOf s)[i] = c
    · refine Ev.step (f := fun _ => some true) (fun k => ?_) ?_
      · simp only [otto_zzHas.l0]; rw [if_pos (by omega), if_pos (by omega), hr, if_pos hb]
      · rw [decide_eq_true (hb ▸ List.mem_cons_self)]; exact Ev.now _
    · have e : decide (c ∈ (bytesOf s)[i] :: (bytesOf s).drop (i + 1)) = decide (c ∈ (bytesOf s).drop (i + 1)) := by
        rw [Bool.eq_iff_iff]
        simp only [List.mem_cons, decide_eq_true_eq]
        exact ⟨fun h => h.resolve_left (fun h => hb h.symm), .inr⟩
      rw [e]
      refine Ev.step (fun k => ?_) (ih (i + 1) (by omega))
      simp only [otto_zzHas.l0]; rw [if_pos (by omega), if_pos (by omega), hr, if_neg hb, w64 _ (by omega) (by omega)]; rfl
theorem should_ev (c : Int) : Ev (fun k => otto_builtinShouldEscape.f k c) (!keep c) := by
  have hk := keep_iff c
  have hh : Ev (fun k => otto_zzHas.f k (⟨#[42, 95, 43, 45, 46, 47]⟩ : ByteArray) c) (decide (c = 42 ∨ c = 95 ∨ c = 43 ∨ c = 45 ∨ c = 46 ∨ c = 47)) := by
    have h := has_loop (⟨#[42, 95, 43, 45, 46, 47]⟩ : ByteArray) c (by decide) 6 0 (by rfl)
    have e : (bytesOf (⟨#[42, 95, 43, 45, 46, 47]⟩ : ByteArray)).drop 0 = [42, 95, 43, 45, 46, 47] := rfl
    rw [e] at h
    have e2 : decide (c ∈ [(42 : Int), 95, 43, 45, 46, 47]) = decide (c = 42 ∨ c = 95 ∨ c = 43 ∨ c = 45 ∨ c = 46 ∨ c = 47) := by simp
    rw [e2] at h
    exact h
  by_cases a : (48 ≤ c ∧ c ≤ 57) ∨ (65 ≤ c ∧ c ≤ 90) ∨ (97 ≤ c ∧ c ≤ 122)
  · have e : keep c = true := hk.2 (by omega)
    rw [e]
    refine ⟨0, fun k _ => ?_⟩
    simp only [otto_builtinShouldEscape.f]
    repeat' split
    all_goals first | rfl | (exfalso; omega)
  · have e : (!keep c) = !decide (c = 42 ∨ c = 95 ∨ c = 43 ∨ c = 45 ∨ c = 46 ∨ c = 47) := by
      congr 1
      rw [Bool.eq_iff_iff, hk]
      simp only [decide_eq_true_eq]
      omega
    rw [e]
    obtain ⟨K, hK⟩ := hh
    refine ⟨K, fun k hk' => ?_⟩
    have := hK k hk'
    simp only [otto_builtinShouldEscape.f, this, Option.bind_some]
    repeat' split
    all_goals first | rfl | (exfalso; omega)

/-! ### escape -/
theorem bt_H (n : Int) (h0 : 0 ≤ n) (h1 : n < 16) : bt (⟨#[48, 49, 50, 51, 52, 53, 54, 55, 56, 57, 65, 66, 67, 68, 69, 70]⟩ : ByteArray) n = hexd n := by
  have : n = 0 ∨ n = 1 ∨ n = 2 ∨ n = 3 ∨ n = 4 ∨ n = 5 ∨ n = 6 ∨ n = 7 ∨ n = 8 ∨ n = 9 ∨ n = 10 ∨ n = 11 ∨ n = 12 ∨ n = 13 ∨ n = 14 ∨ n = 15 := by omega
  rcases this with rfl | rfl | rfl | rfl | rfl | rfl | rfl | rfl | rfl | rfl | rfl | rfl | rfl | rfl | rfl | rfl <;> rfl
theorem ex_H (n : Int) (h0 : 0 ≤ n) (h1 : n < 16) : (⟨#[48, 49, 50, 51, 52, 53, 54, 55, 56, 57, 65, 66, 67, 68, 69, 70]⟩ : ByteArray).extract n.toNat ((n + 1) % 256).toNat = strOfNums [hexd n] := by
  obtain ⟨m, rfl⟩ := Int.eq_ofNat_of_zero_le h0
  rw [show (((m : Int) + 1) % 256).toNat = m + 1 from by omega, show (m : Int).toNat = m from by omega, ← bt_H (m : Int) h0 h1]
  exact extract_one _ m (by show m < 16; omega)
theorem escaped_eq (c : Int) (h0 : 0 ≤ c) (h1 : c < 256) : spec_escaped.f c = some (strOfNums [37, hexd (c / 16), hexd (c % 16)]) := by
  have a := ex_H (c / 16) (by omega) (by omega)
  have b := ex_H (c % 16) (by omega) (by omega)
  have e : (⟨#[37]⟩ : ByteArray) = strOfNums [37] := rfl
  unfold spec_escaped.f
  rw [u8_and15 c h0 h1, a, b, e]
  rw [if_pos (by omega), if_pos (by omega), if_pos (by omega), if_pos (by rw [strOfNums_size]; simp), if_pos (by omega), if_pos (by omega), if_pos (by omega), str_append, if_pos (by rw [strOfNums_size, strOfNums_size]; simp), str_append]
  rfl
theorem spec_escape_loop (s : ByteArray) (hs : s.size ≤ 20000) (hn : ∀ c ∈ bytesOf s, c ≠ 64) : ∀ (d i : Nat), i + d = s.size → ∀ ys : List Int, ys.length ≤ 3 * i →
    Ev (fun k => spec_Escape.l0 k s (strOfNums ys) s.size i) (strOfNums (ys ++ esc ((bytesOf s).drop i))) := by
  intro d
  induction d with
  | zero =>
    intro i hi ys hy
    rw [List.drop_of_length_le (by rw [bytesOf_length]; omega), esc_nil, List.append_nil]
    refine Ev.step (f := fun _ => some (strOfNums ys)) (fun k => ?_) (Ev.now _)
    simp only [spec_Escape.l0]; rw [if_neg (by omega)]
  | succ d ih =>
    intro i hi ys hy
    have hi' : i < (bytesOf s).length := by rw [bytesOf_length]; omega
    have hr : bt s (i : Int) = (bytesOf s)[i] := by rw [bt_getD, List.getD_eq_getElem?_getD, List.getElem?_eq_getElem hi']; rfl
    have rg := bt_range s (i : Int)
    have h64 : bt s (i : Int) ≠ 64 := by rw [hr]; exact hn _ (List.getElem_mem hi')
    have ex : s.extract (i : Int).toNat (((i : Int) + 1).toNat) = strOfNums [bt s (i : Int)] := by
      rw [show (i : Int).toNat = i from by omega, show ((i : Int) + 1).toNat = i + 1 from by omega]
      exact extract_one s i (by omega)
    obtain ⟨d36, hE, k1, _, _, k2, k3⟩ := digit36_ev (bt s (i : Int)) rg.1 (by omega)
    rw [List.drop_eq_getElem_cons hi', esc_cons, ← hr, ← List.append_assoc]
    have c1 : ((i : Int) < (s.size : Int)) = True := eq_true (by omega)
    have c2 : ((0 : Int) ≤ (i : Int)) = True := eq_true (by omega)
    have c3 : wrap64 ((i : Int) + 1) = (i : Int) + 1 := w64 _ (by omega) (by omega)
    have c4 : ((i : Int) ≤ (i : Int) + 1) = True := eq_true (by omega)
    have c5 : ((i : Int) + 1 ≤ (s.size : Int)) = True := eq_true (by omega)
    have hone : (strOfNums [bt s (i : Int)]).size = 1 := by rw [strOfNums_size]; rfl
    have c6 : ((strOfNums ys).size + (strOfNums [bt s (i : Int)]).size ≤ 9223372036854775807) = True := eq_true (by rw [strOfNums_size, hone]; omega)
    refine Ev.step (fun k => rfl) ?_
    simp only [spec_Escape.l0, c1, c2, c3, c4, c5, ex, c6, str_append, if_true]
    refine Ev.bind hE ?_
    have keepcase : keep (bt s (i : Int)) = true → Ev (fun k => spec_Escape.l0 k s (strOfNums (ys ++ [bt s (i : Int)])) s.size ((i : Int) + 1)) (strOfNums ((ys ++ esc1 (bt s (i : Int))) ++ esc ((bytesOf s).drop (i + 1)))) := by
      intro hk
      have e : esc1 (bt s (i : Int)) = [bt s (i : Int)] := by unfold esc1; rw [if_pos hk]
      rw [e]
      exact ih (i + 1) (by omega) _ (by rw [List.length_append, List.length_singleton]; omega)
    by_cases hd : 0 ≤ d36
    · simp only [ge_iff_le, hd, if_true]
      exact keepcase (k2 hd)
    · simp only [ge_iff_le, hd, if_false]
      refine Ev.bind (contains_ev (bt s (i : Int)) rg.1 (by omega)) ?_
      by_cases hk : keep (bt s (i : Int)) = true
      · have := (k3 (by omega)).1 hk
        rw [decide_eq_true (show bt s (i : Int) = 64 ∨ bt s (i : Int) = 42 ∨ bt s (i : Int) = 95 ∨ bt s (i : Int) = 43 ∨ bt s (i : Int) = 45 ∨ bt s (i : Int) = 46 ∨ bt s (i : Int) = 47 from .inr this)]
        simp only [if_true]
        exact keepcase hk
      · have hno : ¬ (bt s (i : Int) = 64 ∨ bt s (i : Int) = 42 ∨ bt s (i : Int) = 95 ∨ bt s (i : Int) = 43 ∨ bt s (i : Int) = 45 ∨ bt s (i : Int) = 46 ∨ bt s (i : Int) = 47) := by
          rintro (h | h)
          · exact h64 h
          · exact hk ((k3 (by omega)).2 h)
        rw [decide_eq_false hno]
        simp only [Bool.false_eq_true, if_false, escaped_eq _ rg.1 (show bt s (i : Int) < 256 by omega), Option.bind_some, str_append]
        have h3 : (strOfNums [37, hexd (bt s (i : Int) / 16), hexd (bt s (i : Int) % 16)]).size = 3 := by rw [strOfNums_size]; rfl
        have c7 : ((strOfNums ys).size + (strOfNums [37, hexd (bt s (i : Int) / 16), hexd (bt s (i : Int) % 16)]).size ≤ 9223372036854775807) = True := eq_true (by rw [strOfNums_size, h3]; omega)
        simp only [c7, if_true]
        have e : esc1 (bt s (i : Int)) = [37, hexd (bt s (i : Int) / 16), hexd (bt s (i : Int) % 16)] := by unfold esc1; rw [if_neg hk]
        rw [e]
        exact ih (i + 1) (by omega) _ (by rw [List.length_append]; simp; omega)
theorem spec_escape_ev (s : ByteArray) (hs : s.size ≤ 20000) (hn : ∀ c ∈ bytesOf s, c ≠ 64) : Ev (fun k => spec_Escape.f k s) (strOfNums (esc (bytesOf s))) := by
  have h := spec_escape_loop s hs hn s.size 0 (by omega) [] (by simp)
  exact h
theorem otto_escape_loop (s : ByteArray) (hs : s.size ≤ 20000) (hn : ∀ c ∈ bytesOf s, c < 128) : ∀ (d i : Nat), i + d = s.size → ∀ ys : List Int, ys.length ≤ 3 * i →
    Ev (fun k => otto_builtinEscape.l0 k s ys s.size i) (strOfNums (ys ++ esc ((bytesOf s).drop i))) := by
  intro d
  induction d with
  | zero =>
    intro i hi ys hy
    rw [List.drop_of_length_le (by rw [bytesOf_length]; omega), esc_nil, List.append_nil]
    refine Ev.step (f := fun _ => some (strOfNums ys)) (fun k => ?_) (Ev.now _)
    simp only [otto_builtinEscape.l0]; rw [if_neg (by omega)]
  | succ d ih =>
    intro i hi ys hy
    have hi' : i < (bytesOf s).length := by rw [bytesOf_length]; omega
    have hr : bt s (i : Int) = (bytesOf s)[i] := by rw [bt_getD, List.getD_eq_getElem?_getD, List.getElem?_eq_getElem hi']; rfl
    have rg := bt_range s (i : Int)
    have h128 : bt s (i : Int) < 128 := by rw [hr]; exact hn _ (List.getElem_mem hi')
    rw [List.drop_eq_getElem_cons hi', esc_cons, ← hr, ← List.append_assoc]
    have c1 : ((i : Int) < (s.size : Int)) = True := eq_true (by omega)
    have c2 : ((0 : Int) ≤ (i : Int)) = True := eq_true (by omega)
    have c3 : wrap64 ((i : Int) + 1) = (i : Int) + 1 := w64 _ (by omega) (by omega)
    have c4 : ((i : Int) ≤ (s.size : Int)) = True := eq_true (by omega)
    have c5 : (ys.length < 140737488355328) = True := eq_true (by omega)
    refine Ev.step (fun k => rfl) ?_
    simp only [otto_builtinEscape.l0, c1, c2, c3, c4, c5, if_true]
    refine Ev.bind (should_ev (bt s (i : Int))) ?_
    by_cases hk : keep (bt s (i : Int)) = true
    · simp only [hk, Bool.not_true, Bool.false_eq_true, if_false]
      have e : esc1 (bt s (i : Int)) = [bt s (i : Int)] := by unfold esc1; rw [if_pos hk]
      rw [e]
      exact ih (i + 1) (by omega) _ (by rw [List.length_append, List.length_singleton]; omega)
    · have e : esc1 (bt s (i : Int)) = [37, hexd (bt s (i : Int) / 16), hexd (bt s (i : Int) % 16)] := by unfold esc1; rw [if_neg hk]
      have hk' : keep (bt s (i : Int)) = false := by rwa [Bool.eq_false_iff]
      have hsz : (s.extract (i : Int).toNat s.size).size = s.size - i := by rw [ByteArray.size_extract]; omega
      have hb0 : bt (s.extract (i : Int).toNat s.size) 0 = bt s (i : Int) := by
        rw [show (0 : Int) = ((0 : Nat) : Int) from rfl, bt_getD, extract_bytes, bt_getD]
        rw [show (i : Int).toNat = i from by omega, List.getD_eq_getElem?_getD, List.getD_eq_getElem?_getD, List.getElem?_take_of_lt (by omega), List.getElem?_drop]; rfl
      have hdec : utf8_DecodeRuneInString.f (s.extract (i : Int).toNat s.size) = some (bt s (i : Int), 1) := by
        unfold utf8_DecodeRuneInString.f
        rw [if_neg (fun h => by rw [ByteArray.toList_eq] at h; have := congrArg List.length h; rw [data_length, hsz] at this; simp at this; omega), if_pos (by rw [hsz]; omega), hb0, if_pos h128]
        have : wrap32 (bt s (i : Int)) = bt s (i : Int) := by unfold wrap32; omega
        rw [this]
      simp only [hk', Bool.not_false, if_true, hdec, Option.bind_some]
      refine Ev.bind (encode_one _ rg.1 h128) ?_
      have r1 : rd [bt s (i : Int)] 0 = bt s (i : Int) := rfl
      have d1 : ((0 : Int) < (([bt s (i : Int)] : List Int).length : Int)) = True := eq_true (by simp)
      have d2 : ((256 : Int) > bt s (i : Int)) = True := eq_true (by omega)
      have d3 : ((0 : Int) ≤ bt s (i : Int) / 16) = True := eq_true (by omega)
      have d4 : (bt s (i : Int) / 16 < 16) = True := eq_true (by omega)
      have a15 : Go.bits .and .u16 (bt s (i : Int)) 15 = bt s (i : Int) % 16 := bits_mask .u16 16 (by decide) (fun n h0 h1 => by rw [IntKind.wrap_u16]; omega) 4 (by decide) _ rg.1 (by omega)
      have d5 : ((0 : Int) ≤ bt s (i : Int) % 16) = True := eq_true (by omega)
      have d6 : (bt s (i : Int) % 16 < 16) = True := eq_true (by omega)
      have b1 := bt_H (bt s (i : Int) / 16) (by omega) (by omega)
      have b2 := bt_H (bt s (i : Int) % 16) (by omega) (by omega)
      have d7 : (ys.length + ([37, hexd (bt s (i : Int) / 16), hexd (bt s (i : Int) % 16)] : List Int).length < 140737488355328) = True := eq_true (by simp; omega)
      simp only [r1, d1, d2, d3, d4, a15, d5, d6, b1, b2, d7, if_true, c3]
      rw [e]
      exact ih (i + 1) (by omega) _ (by rw [List.length_append]; simp; omega)
theorem otto_escape_ev (s : ByteArray) (hs : s.size ≤ 20000) (hn : ∀ c ∈ bytesOf s, c < 128) : Ev (fun k => impl_Escape.f k s) (strOfNums (esc (bytesOf s))) := by
  have h := otto_escape_loop s hs hn s.size 0 (by omega) [] (by simp)
  refine Ev.bind (g := fun k => otto_ZZEscape.f k s) (f := fun _ t => some t) (Ev.bind (g := fun k => otto_builtinEscape.f k s) (f := fun _ t => some t) ?_ (Ev.now _)) (Ev.now _)
  refine Ev.congr (fun k => ?_) h
  unfold otto_builtinEscape.f
  rw [if_pos (by omega), if_pos (by omega)]; rfl
end Go.Proofs.YtllaepgbpmiglaaDoor.EscLoops
