/- The trim of both sides: white space of ASCII at the two ends. Conditions: the text is ASCII, of at most 5000 bytes. -/
import Derived.Test.YtllaepgbpmiglaaGreatDoorFrac
namespace Go.Proofs.YtllaepgbpmiglaaGreatDoor
open Go.RowKit Go.Proofs.YtllaepgbpmiglaaGreatDoorW.PrintWords Go.Proofs.YtllaepgbpmiglaaGreatDoor.QNum
def spc (c : Int) : Bool := decide (c = 32 ∨ (9 ≤ c ∧ c ≤ 13))
def trimL : Nat → ByteArray → ByteArray
  | 0, s => s
  | f + 1, s => if s.size = 0 then s else if spc (bt s 0) = true then trimL f (s.extract 1 s.size) else s
def trimR : Nat → ByteArray → ByteArray
  | 0, s => s
  | f + 1, s => if s.size = 0 then s else if spc (bt s ((s.size : Int) - 1)) = true then trimR f (s.extract 0 (s.size - 1)) else s
/-- ASCII, and short. -/
def Asc (s : ByteArray) : Prop := s.size ≤ 5000 ∧ ∀ j : Nat, j < s.size → bt s j < 128
theorem bt_extract (s : ByteArray) (a b : Nat) (hb : b ≤ s.size) (j : Nat) (hj : j < b - a) : bt (s.extract a b) (j : Int) = bt s ((a + j : Nat) : Int) := by
  have h1 : (j : Int).toNat < (s.extract a b).size := by rw [ByteArray.size_extract]; omega
  have h2 : ((a + j : Nat) : Int).toNat < s.size := by omega
  have e1 := bt_at (s.extract a b) (j : Int) h1
  have e2 := bt_at s ((a + j : Nat) : Int) h2
  rw [← e1, ← e2]
  congr 2
  exact ByteArray.getElem_extract (start := a) (stop := b) h1
theorem Asc.extract {s : ByteArray} (h : Asc s) (a b : Nat) (hb : b ≤ s.size) : Asc (s.extract a b) := by
  refine ⟨by rw [ByteArray.size_extract]; have := h.1; omega, fun j hj => ?_⟩
  have hj2 : j < b - a := by rw [ByteArray.size_extract] at hj; omega
  rw [bt_extract s a b hb j hj2]
  exact h.2 _ (by omega)
theorem trimL_asc : ∀ (f : Nat) (s : ByteArray), Asc s → Asc (trimL f s)
  | 0, _, h => h
  | f + 1, s, h => by
    unfold trimL
    split
    · exact h
    · split
      · exact trimL_asc f _ (h.extract 1 s.size (Nat.le_refl _))
      · exact h
theorem trimR_asc : ∀ (f : Nat) (s : ByteArray), Asc s → Asc (trimR f s)
  | 0, _, h => h
  | f + 1, s, h => by
    unfold trimR
    split
    · exact h
    · split
      · exact trimR_asc f _ (h.extract 0 (s.size - 1) (by omega))
      · exact h
theorem nil_iff (s : ByteArray) : (s.toList = ([] : List UInt8)) = (s.size = 0) := by
  apply propext
  rw [ByteArray.toList_eq]
  constructor
  · intro h
    have h2 : s.data.size = 0 := by rw [← Array.length_toList, h]; rfl
    exact h2
  · intro h
    have h2 : s.data.toList.length = 0 := by rw [Array.length_toList]; exact h
    exact List.length_eq_zero_iff.1 h2
theorem zzTrimLeft_ev : ∀ (f : Nat) (s : ByteArray), Asc s → s.size ≤ f → Ev (fun g => otto_zzTrimLeft.l0 g s trimSet) (trimL f s)
  | 0, s, h, hf => by
    have hz : s.size = 0 := by omega
    refine Ev.step (fun g => rfl) ?_
    simp only [otto_zzTrimLeft.l0, nil_iff, eq_true hz, if_true]
    exact Ev.now _
  | f + 1, s, h, hf => by
    refine Ev.step (fun g => rfl) ?_
    by_cases hz : s.size = 0
    · simp only [otto_zzTrimLeft.l0, nil_iff, eq_true hz, if_true, trimL]
      exact Ev.now _
    · have hr := bt_range s 0
      have ha : bt s 0 < 128 := h.2 0 (by omega)
      have c1 : ((0 : Int) < (s.size : Int)) = True := eq_true (by omega)
      have hw : wrap32 (bt s 0) = bt s 0 := by unfold wrap32; omega
      have hd : utf8_DecodeRuneInString.f s = some (bt s 0, 1) := by
        simp only [utf8_DecodeRuneInString.f, nil_iff, eq_false hz, if_false, c1, if_true, eq_true ha, hw]
      have hin : otto_zzIn.f trimSet (bt s 0) = some (spc (bt s 0)) := by
        unfold otto_zzIn.f
        rw [if_pos rfl, if_pos ⟨hr.1, ha⟩]
        rfl
      have c2 : ((0 : Int) ≤ 1) = True := eq_true (by omega)
      have c3 : ((1 : Int) ≤ (s.size : Int)) = True := eq_true (by omega)
      have e1 : ((1 : Int)).toNat = 1 := rfl
      by_cases hsp : spc (bt s 0) = true
      · have ih := zzTrimLeft_ev f (s.extract 1 s.size) (h.extract 1 s.size (Nat.le_refl _)) (by rw [ByteArray.size_extract]; omega)
        simp only [otto_zzTrimLeft.l0, nil_iff, eq_false hz, if_false, hd, Option.bind_some, hin, hsp, if_true, c2, c3, e1, trimL]
        exact ih
      · simp only [otto_zzTrimLeft.l0, nil_iff, eq_false hz, if_false, hd, Option.bind_some, hin, eq_false hsp, trimL]
        exact Ev.now _
theorem zzTrimRight_ev : ∀ (f : Nat) (s : ByteArray), Asc s → s.size ≤ f → Ev (fun g => otto_zzTrimRight.l0 g s trimSet) (trimR f s)
  | 0, s, h, hf => by
    have hz : s.size = 0 := by omega
    refine Ev.step (fun g => rfl) ?_
    simp only [otto_zzTrimRight.l0, nil_iff, eq_true hz, if_true]
    exact Ev.now _
  | f + 1, s, h, hf => by
    refine Ev.step (fun g => rfl) ?_
    by_cases hz : s.size = 0
    · simp only [otto_zzTrimRight.l0, nil_iff, eq_true hz, if_true, trimR]
      exact Ev.now _
    · have hsz := h.1
      have hr := bt_range s ((s.size : Int) - 1)
      have ha : bt s ((s.size : Int) - 1) < 128 := by
        have := h.2 (s.size - 1) (by omega)
        rwa [show ((s.size - 1 : Nat) : Int) = (s.size : Int) - 1 from by omega] at this
      have hd : utf8_DecodeLastRuneInString.f s = some (bt s ((s.size : Int) - 1), 1) := by
        unfold utf8_DecodeLastRuneInString.f
        rw [if_pos ⟨by omega, by omega⟩, if_pos ha]
      have hin : otto_zzIn.f trimSet (bt s ((s.size : Int) - 1)) = some (spc (bt s ((s.size : Int) - 1))) := by
        unfold otto_zzIn.f
        rw [if_pos rfl, if_pos ⟨hr.1, ha⟩]
        rfl
      have c2 : ((0 : Int) ≤ (s.size : Int) - 1) = True := eq_true (by omega)
      have c3 : ((s.size : Int) - 1 ≤ (s.size : Int)) = True := eq_true (by omega)
      have e1 : ((s.size : Int) - 1).toNat = s.size - 1 := by omega
      by_cases hsp : spc (bt s ((s.size : Int) - 1)) = true
      · have ih := zzTrimRight_ev f (s.extract 0 (s.size - 1)) (h.extract 0 (s.size - 1) (by omega)) (by rw [ByteArray.size_extract]; omega)
        have hw := w64 ((s.size : Int) - 1) (by omega) (by omega)
        simp only [otto_zzTrimRight.l0, nil_iff, eq_false hz, if_false, hd, Option.bind_some, hin, hsp, if_true, hw, c2, c3, e1, trimR]
        exact ih
      · simp only [otto_zzTrimRight.l0, nil_iff, eq_false hz, if_false, hd, Option.bind_some, hin, eq_false hsp, trimR]
        exact Ev.now _
/-- What is left of a text. -/
def trim (s : ByteArray) : ByteArray := trimR (trimL s.size s).size (trimL s.size s)
theorem trim_asc (s : ByteArray) (h : Asc s) : Asc (trim s) := trimR_asc _ _ (trimL_asc _ _ h)
theorem zzTrim_ev (s : ByteArray) (h : Asc s) : ∃ g, otto_zzTrim.f g s trimSet = some (trim s) := by
  have h1 := zzTrimLeft_ev s.size s h (Nat.le_refl _)
  have h2 := zzTrimRight_ev (trimL s.size s).size (trimL s.size s) (trimL_asc _ _ h) (Nat.le_refl _)
  have h3 : Ev (fun g => otto_zzTrim.f g s trimSet) (trim s) := by
    refine Ev.congr (fun g => rfl) (Ev.bind (g := fun g => otto_zzTrimLeft.l0 g s trimSet) h1 ?_)
    exact Ev.bind (g := fun g => otto_zzTrimRight.l0 g (trimL s.size s) trimSet) h2 (Ev.now _)
  exact h3.rounds
theorem isSpace_eq (c : Int) : spec_isSpace.f c = some (spc c) := by
  unfold spec_isSpace.f spc
  by_cases h32 : c = 32
  · rw [if_pos h32, decide_eq_true (.inl h32)]
  · rw [if_neg h32]
    by_cases h9 : c ≥ 9
    · rw [if_pos h9]
      congr 1
      by_cases h13 : c ≤ 13
      · rw [decide_eq_true h13, decide_eq_true (.inr ⟨h9, h13⟩)]
      · rw [decide_eq_false h13, decide_eq_false (by omega)]
    · rw [if_neg h9, decide_eq_false (by omega)]
end Go.Proofs.YtllaepgbpmiglaaGreatDoor
