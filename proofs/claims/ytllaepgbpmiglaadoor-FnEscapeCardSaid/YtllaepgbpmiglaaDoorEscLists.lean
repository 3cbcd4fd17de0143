/- Plain law on lists of bytes as numbers: what is escaped is unescaped again; no program in sight. -/
import Derived.IntWalk
namespace Go.Proofs.YtllaepgbpmiglaaDoor.Esc

def keep (c : Int) : Bool := decide (48 ≤ c ∧ c ≤ 57) || decide (65 ≤ c ∧ c ≤ 90) || decide (97 ≤ c ∧ c ≤ 122) || decide (c = 42 ∨ c = 95 ∨ c = 43 ∨ c = 45 ∨ c = 46 ∨ c = 47)
theorem keep_iff (c : Int) : keep c = true ↔ ((48 ≤ c ∧ c ≤ 57) ∨ (65 ≤ c ∧ c ≤ 90) ∨ (97 ≤ c ∧ c ≤ 122) ∨ (c = 42 ∨ c = 95 ∨ c = 43 ∨ c = 45 ∨ c = 46 ∨ c = 47)) := by
  unfold keep
  simp only [Bool.or_eq_true, decide_eq_true_eq, or_assoc]
def hexd (n : Int) : Int := if n < 10 then 48 + n else 55 + n
def esc1 (c : Int) : List Int := if keep c = true then [c] else [37, hexd (c / 16), hexd (c % 16)]
def esc (l : List Int) : List Int := l.flatMap esc1
theorem esc_nil : esc [] = [] := rfl
theorem esc_cons (c : Int) (l : List Int) : esc (c :: l) = esc1 c ++ esc l := by simp [esc]
theorem esc_append (l m : List Int) : esc (l ++ m) = esc l ++ esc m := by simp [esc]
theorem esc1_length (c : Int) : (esc1 c).length ≤ 3 := by unfold esc1; split <;> simp
theorem esc_length (l : List Int) : (esc l).length ≤ 3 * l.length := by
  induction l with
  | nil => simp [esc]
  | cons c l ih => rw [esc_cons, List.length_append, List.length_cons]; have := esc1_length c; omega
theorem hexd_range (n : Int) (h0 : 0 ≤ n) (h1 : n < 16) : 48 ≤ hexd n ∧ hexd n ≤ 70 := by unfold hexd; split <;> omega
theorem esc1_range (c : Int) (h0 : 0 ≤ c) (h1 : c < 128) : ∀ x ∈ esc1 c, 0 ≤ x ∧ x < 128 := by
  intro x hx
  unfold esc1 at hx
  split at hx
  · simp only [List.mem_singleton] at hx; omega
  · have a := hexd_range (c / 16) (by omega) (by omega)
    have b := hexd_range (c % 16) (by omega) (by omega)
    simp only [List.mem_cons, List.not_mem_nil, or_false] at hx
    omega
theorem esc_range (l : List Int) (h : ∀ c ∈ l, 0 ≤ c ∧ c < 128) : ∀ x ∈ esc l, 0 ≤ x ∧ x < 128 := by
  intro x hx
  simp only [esc, List.mem_flatMap] at hx
  obtain ⟨c, hc, hx⟩ := hx
  exact esc1_range c (h c hc).1 (h c hc).2 x hx

/-- The value of a hexadecimal digit, or -1. -/
def hexv (c : Int) : Int := if 48 ≤ c ∧ c ≤ 57 then c - 48 else if 97 ≤ c ∧ c ≤ 102 then c - 87 else if 65 ≤ c ∧ c ≤ 70 then c - 55 else -1
theorem hexv_range (c : Int) : -1 ≤ hexv c ∧ hexv c ≤ 15 := by unfold hexv; repeat' split <;> omega
theorem hexv_hexd (n : Int) (h0 : 0 ≤ n) (h1 : n < 16) : hexv (hexd n) = n := by
  unfold hexd hexv
  split
  · rw [if_pos (by omega)]; omega
  · rw [if_neg (by omega), if_neg (by omega), if_pos (by omega)]; omega
def hex2 (a b : Int) : Int := if hexv a < 0 ∨ hexv b < 0 then -1 else hexv a * 16 + hexv b
theorem hex2_range (a b : Int) : -1 ≤ hex2 a b ∧ hex2 a b ≤ 255 := by
  have := hexv_range a; have := hexv_range b
  unfold hex2; split <;> omega
def hex4 (a b c d : Int) : Int := if hex2 a b < 0 ∨ hex2 c d < 0 then -1 else hex2 a b * 256 + hex2 c d
theorem hex4_range (a b c d : Int) : -1 ≤ hex4 a b c d ∧ hex4 a b c d ≤ 65535 := by
  have := hex2_range a b; have := hex2_range c d
  unfold hex4; split <;> omega
/-- What stands at the head of a text: its value, and how many bytes it takes. -/
def step (l : List Int) : Int × Nat :=
  if l.getD 0 0 = 37 then
    if 6 ≤ l.length ∧ l.getD 1 0 = 117 ∧ 0 ≤ hex4 (l.getD 2 0) (l.getD 3 0) (l.getD 4 0) (l.getD 5 0) then (hex4 (l.getD 2 0) (l.getD 3 0) (l.getD 4 0) (l.getD 5 0), 6)
    else if 3 ≤ l.length ∧ 0 ≤ hex2 (l.getD 1 0) (l.getD 2 0) then (hex2 (l.getD 1 0) (l.getD 2 0), 3)
    else (37, 1)
  else (l.getD 0 0, 1)
def unesc : Nat → List Int → Option (List Int)
  | 0, _ => some []
  | n + 1, l => if l = [] then some [] else if 128 ≤ (step l).1 then none else (unesc n (l.drop (step l).2)).map ((step l).1 :: ·)
theorem step_size (l : List Int) : 1 ≤ (step l).2 := by
  unfold step
  split
  · split
    · simp
    · split <;> simp
  · simp
theorem getD_nonneg (l : List Int) (h : ∀ c ∈ l, 0 ≤ c) (i : Nat) : 0 ≤ l.getD i 0 := by
  rw [List.getD_eq_getElem?_getD]
  rcases Nat.lt_or_ge i l.length with hi | hi
  · rw [List.getElem?_eq_getElem hi]; exact h _ (List.getElem_mem hi)
  · rw [List.getElem?_eq_none hi]; simp
theorem step_nonneg (l : List Int) (h : ∀ c ∈ l, 0 ≤ c) : 0 ≤ (step l).1 := by
  have := getD_nonneg l h 0
  unfold step
  split
  · split
    · rename_i h1; exact h1.2.2
    · split
      · rename_i h1; exact h1.2
      · simp
  · exact this
theorem unesc_range : ∀ (n : Nat) (l : List Int), (∀ c ∈ l, 0 ≤ c) → ∀ zs, unesc n l = some zs → ∀ z ∈ zs, 0 ≤ z ∧ z < 128 := by
  intro n
  induction n with
  | zero => intro l _ zs h z hz; simp only [unesc, Option.some.injEq] at h; subst h; simp at hz
  | succ n ih =>
    intro l hl zs h z hz
    have h0 := step_nonneg l hl
    simp only [unesc] at h
    split at h
    · simp only [Option.some.injEq] at h; subst h; simp at hz
    · split at h
      · cases h
      · rename_i h1
        obtain ⟨ys, hy, rfl⟩ := Option.map_eq_some_iff.1 h
        rcases List.mem_cons.1 hz with rfl | hz
        · omega
        · exact ih _ (fun c hc => hl c (List.mem_of_mem_drop hc)) ys hy z hz
theorem unesc_length : ∀ (n : Nat) (l : List Int) (zs : List Int), unesc n l = some zs → zs.length ≤ n := by
  intro n
  induction n with
  | zero => intro l zs h; simp only [unesc, Option.some.injEq] at h; subst h; simp
  | succ n ih =>
    intro l zs h
    simp only [unesc] at h
    split at h
    · simp only [Option.some.injEq] at h; subst h; simp
    · split at h
      · cases h
      · obtain ⟨ys, hy, rfl⟩ := Option.map_eq_some_iff.1 h
        have := ih _ ys hy
        simp; omega
theorem step_keep (c : Int) (l : List Int) (h : keep c = true) : step (c :: l) = (c, 1) := by
  have h37 : c ≠ 37 := by rintro rfl; exact absurd h (by decide)
  unfold step
  rw [if_neg (by simpa using h37)]
  simp
theorem step_esc (c : Int) (l : List Int) (h0 : 0 ≤ c) (h1 : c < 128) : step (37 :: hexd (c / 16) :: hexd (c % 16) :: l) = (c, 3) := by
  have a := hexv_hexd (c / 16) (by omega) (by omega)
  have b := hexv_hexd (c % 16) (by omega) (by omega)
  have r := hexd_range (c / 16) (by omega) (by omega)
  have hx : hex2 (hexd (c / 16)) (hexd (c % 16)) = c := by unfold hex2; rw [a, b, if_neg (by omega)]; omega
  unfold step
  rw [if_pos (by simp), if_neg (by rintro ⟨_, h, _⟩; simp at h; omega)]
  have e1 : (37 :: hexd (c / 16) :: hexd (c % 16) :: l).getD 1 0 = hexd (c / 16) := by simp
  have e2 : (37 :: hexd (c / 16) :: hexd (c % 16) :: l).getD 2 0 = hexd (c % 16) := by simp
  rw [e1, e2, hx, if_pos ⟨by simp, h0⟩]
theorem unesc_esc (l : List Int) (h : ∀ c ∈ l, 0 ≤ c ∧ c < 128) : ∀ n, (esc l).length ≤ n → unesc n (esc l) = some l := by
  induction l with
  | nil => intro n _; cases n <;> simp [unesc, esc]
  | cons c l ih =>
    intro n hn
    have hc := h c List.mem_cons_self
    have ihl := ih (fun x hx => h x (List.mem_cons_of_mem _ hx))
    rw [esc_cons] at hn ⊢
    by_cases hk : keep c = true
    · have e : esc1 c = [c] := by unfold esc1; rw [if_pos hk]
      rw [e] at hn ⊢
      simp only [List.singleton_append, List.length_cons] at hn ⊢
      obtain ⟨m, rfl⟩ : ∃ m, n = m + 1 := ⟨n - 1, by omega⟩
      simp only [unesc]
      rw [step_keep c _ hk, if_neg (by simp), if_neg (by simp; omega)]
      simp only [List.drop_succ_cons, List.drop_zero]
      rw [ihl m (by omega)]; rfl
    · have e : esc1 c = [37, hexd (c / 16), hexd (c % 16)] := by unfold esc1; rw [if_neg hk]
      rw [e] at hn ⊢
      simp only [List.cons_append, List.nil_append, List.length_cons] at hn ⊢
      obtain ⟨m, rfl⟩ : ∃ m, n = m + 1 := ⟨n - 1, by omega⟩
      simp only [unesc]
      rw [step_esc c _ hc.1 hc.2, if_neg (by simp), if_neg (by simp; omega)]
      simp only [List.drop_succ_cons, List.drop_zero]
      rw [ihl m (by omega)]; rfl
end Go.Proofs.YtllaepgbpmiglaaDoor.Esc
