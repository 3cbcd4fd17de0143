/- What the reference's reading of hexadecimal digits comes to. Conditions: the text has at most 5000 bytes. -/
import Derived.Test.YtllaepgbpmiglaaGreatDoorFrac
import Derived.Laws.BitsAllLaws
namespace Go.Proofs.YtllaepgbpmiglaaGreatDoor
open Go.RowKit Go.Proofs.YtllaepgbpmiglaaGreatDoorW.PrintWords Go.Proofs.YtllaepgbpmiglaaGreatDoor.QNum Floats
/-- Where the reference has an answer: at most 13 digits and nothing else; or the digits, at most 13, end at a character that is no underscore, no point, no p. -/
def HexShape (s : ByteArray) (v : Nat) : Prop :=
  (s.size ≤ 13 ∧ (∀ j : Nat, j < s.size → 0 ≤ hexd (bt s j)) ∧ v = floatOfInt .f64 (hexVal s s.size)) ∨
  (∃ e : Nat, e ≤ 13 ∧ e < s.size ∧ (∀ j : Nat, j < e → 0 ≤ hexd (bt s j)) ∧ hexd (bt s e) = -1 ∧ bt s e ≠ 95 ∧ bt s e ≠ 46 ∧ low (bt s e) ≠ 112 ∧ v = nanW)
theorem or64 (v d : Int) (h0 : 0 ≤ v) (h1 : v < 4503599627370496) (h2 : 0 ≤ d) (h3 : d ≤ 15) : Go.bits .or .u64 (IntKind.u64.wrap (v * 16)) d = 16 * v + d := by
  rw [uw (v * 16) (by omega) (by omega), u64_or (v * 16) d (by omega) (by omega) h2 (by omega)]
  have := nat_join 4 (v * 16).toNat d.toNat (by omega) (by omega)
  omega
theorem low_ge_fin : ∀ n : Fin 256, 0 ≤ low (n.val : Int) ∧ low (n.val : Int) ≤ 255 := by decide +kernel
theorem low_ge (c : Int) (h0 : 0 ≤ c) (h1 : c ≤ 255) : 0 ≤ low c ∧ low c ≤ 255 := by
  have h := low_ge_fin ⟨c.toNat, by omega⟩
  have e : ((c.toNat : Nat) : Int) = c := by omega
  simp only [e] at h
  exact h
theorem hexs_at (s : ByteArray) (hs : s.size ≤ 5000) : ∀ (d i : Nat), d = s.size - i → i ≤ s.size → i ≤ 13 → (∀ j : Nat, j < i → 0 ≤ hexd (bt s j)) →
    ∃ r, Ev (fun g => spec_hexadecimal.l0 g s (hexVal s i) s.size i) r ∧ (r.2 = true → HexShape s r.1)
  | 0, i, hd, hi, h13, hall => by
    have he : i = s.size := by omega
    have c1 : ((i : Int) < (s.size : Int)) = False := eq_false (by omega)
    refine ⟨(floatOfInt .f64 (hexVal s i), true), Ev.step (fun g => rfl) ?_, fun _ => .inl ⟨by omega, fun j hj => hall j (by omega), by rw [he]⟩⟩
    simp only [spec_hexadecimal.l0, c1, if_false]
    exact Ev.now _
  | d + 1, i, hd, hi, h13, hall => by
    have hlt : i < s.size := by omega
    have c1 : ((i : Int) < (s.size : Int)) = True := eq_true (by omega)
    have c2 : ((0 : Int) ≤ (i : Int)) = True := eq_true (by omega)
    have hr := bt_range s i
    have hl := low_ge _ hr.1 hr.2
    have hv := hexVal_small s i h13 hall
    have hw : Aside0 (wrap64 ((i : Int) + 1) = ((i + 1 : Nat) : Int)) := ⟨w64 _ (by omega) (by omega)⟩
    have hwl : Aside0 (IntKind.u64.wrap (Go.bits .or .u8 (bt s i) 32) = low (bt s i)) := ⟨uw (low (bt s i)) (by omega) (by omega)⟩
    have hj1 : ∀ r, Ev (fun g => spec_hexadecimal.j1 g s (hexVal s i) i (low (bt s i)) s.size i (decide (48 ≤ bt s i ∧ bt s i ≤ 57))) r → Ev (fun g => spec_hexadecimal.l0 g s (hexVal s i) s.size i) r := fun r h => by
      refine Ev.step (fun g => rfl) ?_
      obtain ⟨B, hB⟩ : ∃ B, decide (48 ≤ bt s i ∧ bt s i ≤ 57) = B := ⟨_, rfl⟩
      rw [hB] at h
      by_cases h48 : bt s i ≥ 48
      · have e : decide (bt s i ≤ 57) = B := by
          rw [← hB]
          by_cases h57 : bt s i ≤ 57
          · rw [decide_eq_true h57, decide_eq_true ⟨h48, h57⟩]
          · rw [decide_eq_false h57, decide_eq_false (fun h => h57 h.2)]
        simp only [spec_hexadecimal.l0, c1, c2, if_true, eq_true h48, hwl.out, e]
        exact h
      · have e : B = false := by rw [← hB]; exact decide_eq_false (fun h => h48 h.1)
        rw [e] at h
        simp only [spec_hexadecimal.l0, c1, c2, if_true, eq_false h48, if_false, hwl.out]
        exact h
    -- a digit is read
    have hgo : ∀ (x : Int), 0 ≤ hexd (bt s i) → x = hexd (bt s i) → i < 13 → ∃ r, Ev (fun g => spec_hexadecimal.l0 g s (Go.bits .or .u64 (IntKind.u64.wrap (hexVal s i * 16)) x) s.size (wrap64 ((i : Int) + 1))) r ∧ (r.2 = true → HexShape s r.1) := fun x h0 hx hi13 => by
      obtain ⟨r, h1, h2⟩ := hexs_at s hs d (i + 1) (by omega) (by omega) (by omega) (fun j hj => by
        by_cases hj2 : j = i
        · rw [hj2]; exact h0
        · exact hall j (by omega))
      refine ⟨r, ?_, h2⟩
      have hle := hexd_le (bt s i)
      have e : Go.bits .or .u64 (IntKind.u64.wrap (hexVal s i * 16)) x = hexVal s (i + 1) := by
        rw [or64 _ x hv.1 hv.2 (by omega) (by omega), hx]
        rfl
      rw [e, hw.out]
      exact h1
    by_cases h9 : 48 ≤ bt s i ∧ bt s i ≤ 57
    · have hx : hexd (bt s i) = bt s i - 48 := by unfold hexd; rw [if_pos h9]
      rw [decide_eq_true h9] at hj1
      by_cases hi13 : i < 13
      · have em : (bt s i - 48) % 256 = hexd (bt s i) := by omega
        obtain ⟨r, h1, h2⟩ := hgo _ (by omega) em hi13
        have c13 : ((i : Int) ≥ 13) = False := eq_false (by omega)
        refine ⟨r, hj1 r (Ev.step (fun g => rfl) ?_), h2⟩
        simp only [spec_hexadecimal.j1, if_true, c1, c2, c13, if_false]
        exact h1
      · have c13 : ((i : Int) ≥ 13) = True := eq_true (by omega)
        refine ⟨(0, false), hj1 _ (Ev.step (fun g => rfl) ?_), fun h => absurd h Bool.false_ne_true⟩
        simp only [spec_hexadecimal.j1, if_true, c1, c2, c13]
        exact Ev.now _
    · rw [decide_eq_false h9] at hj1
      have hj2 : ∀ r, Ev (fun g => spec_hexadecimal.j2 g s (hexVal s i) i (low (bt s i)) s.size i (decide (97 ≤ low (bt s i) ∧ low (bt s i) ≤ 102))) r → Ev (fun g => spec_hexadecimal.l0 g s (hexVal s i) s.size i) r := fun r h => by
        refine hj1 r (Ev.step (fun g => rfl) ?_)
        obtain ⟨B, hB⟩ : ∃ B, decide (97 ≤ low (bt s i) ∧ low (bt s i) ≤ 102) = B := ⟨_, rfl⟩
        rw [hB] at h
        by_cases h97 : low (bt s i) ≥ 97
        · have e : decide (low (bt s i) ≤ 102) = B := by
            rw [← hB]
            by_cases h102 : low (bt s i) ≤ 102
            · rw [decide_eq_true h102, decide_eq_true ⟨h97, h102⟩]
            · rw [decide_eq_false h102, decide_eq_false (fun h => h102 h.2)]
          simp only [spec_hexadecimal.j1, Bool.false_eq_true, if_false, eq_true h97, if_true, e]
          exact h
        · have e : B = false := by rw [← hB]; exact decide_eq_false (fun h => h97 h.1)
          rw [e] at h
          simp only [spec_hexadecimal.j1, Bool.false_eq_true, if_false, eq_false h97]
          exact h
      by_cases hl9 : 97 ≤ low (bt s i) ∧ low (bt s i) ≤ 102
      · have hx : hexd (bt s i) = low (bt s i) - 87 := by unfold hexd; rw [if_neg h9, if_pos hl9]
        rw [decide_eq_true hl9] at hj2
        by_cases hi13 : i < 13
        · have em : IntKind.u64.wrap (low (bt s i) - 87) = hexd (bt s i) := by rw [hx]; exact uw _ (by omega) (by omega)
          obtain ⟨r, h1, h2⟩ := hgo _ (by omega) em hi13
          have c13 : ((i : Int) ≥ 13) = False := eq_false (by omega)
          refine ⟨r, hj2 r (Ev.step (fun g => rfl) ?_), h2⟩
          simp only [spec_hexadecimal.j2, if_true, c13, if_false]
          exact h1
        · have c13 : ((i : Int) ≥ 13) = True := eq_true (by omega)
          refine ⟨(0, false), hj2 _ (Ev.step (fun g => rfl) ?_), fun h => absurd h Bool.false_ne_true⟩
          simp only [spec_hexadecimal.j2, if_true, c13]
          exact Ev.now _
      · have hx : hexd (bt s i) = -1 := by unfold hexd; rw [if_neg h9, if_neg hl9]
        rw [decide_eq_false hl9] at hj2
        by_cases h95 : bt s i = 95
        · refine ⟨(nanW, false), hj2 _ (Ev.step (fun g => rfl) ?_), fun h => absurd h Bool.false_ne_true⟩
          simp only [spec_hexadecimal.j2, Bool.false_eq_true, if_false, math_NaN.f, Option.bind_some, c1, c2, if_true, eq_true h95]
          exact Ev.now _
        · by_cases h46 : bt s i = 46
          · refine ⟨(nanW, false), hj2 _ (Ev.step (fun g => rfl) ?_), fun h => absurd h Bool.false_ne_true⟩
            simp only [spec_hexadecimal.j2, Bool.false_eq_true, if_false, math_NaN.f, Option.bind_some, c1, c2, if_true, eq_false h95, eq_true h46]
            exact Ev.now _
          · refine ⟨(nanW, low (bt s i) != 112), hj2 _ (Ev.step (fun g => rfl) ?_), fun h => .inr ⟨i, h13, hlt, hall, hx, h95, h46, bne_iff_ne.1 h, rfl⟩⟩
            simp only [spec_hexadecimal.j2, Bool.false_eq_true, if_false, math_NaN.f, Option.bind_some, c1, c2, if_true, eq_false h95, eq_false h46]
            exact Ev.now _
/-- The whole reading. -/
theorem hexs (s : ByteArray) (hs : s.size ≤ 5000) : ∃ v b, (∃ g, spec_hexadecimal.f g s = some (v, b)) ∧ (b = true → HexShape s v) := by
  obtain ⟨⟨v, b⟩, h1, h2⟩ := hexs_at s hs s.size 0 (by omega) (by omega) (by omega) (fun j hj => by omega)
  exact ⟨v, b, h1.rounds, h2⟩
end Go.Proofs.YtllaepgbpmiglaaGreatDoor
