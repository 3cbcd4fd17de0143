/- For every text of ASCII without the sign 64 of at most 5000 bytes: escape and unescape are what the reference says; other texts the statement lets by. -/
import Derived.Test.YtllaepgbpmiglaaDoorUnescLoops
namespace Go.Proofs.YtllaepgbpmiglaaDoor.Pure
open Go.RowKit Go.Proofs.YtllaepgbpmiglaaDoor.QFnEscape Go.Proofs.YtllaepgbpmiglaaDoorW.PrintWords Go.Proofs.YtllaepgbpmiglaaDoorW.PrintLast Go.Proofs.YtllaepgbpmiglaaDoor.Esc Go.Proofs.YtllaepgbpmiglaaDoor.EscFacts Go.Proofs.YtllaepgbpmiglaaDoor.EscLoops Go.Proofs.YtllaepgbpmiglaaDoor.UnescLoops

theorem by_true (s : ByteArray) : Ev (fun k => laws_FnEscape.j0 k s true) true := by
  refine Ev.step (f := fun _ => some true) (fun k => ?_) (Ev.now _)
  simp only [laws_FnEscape.j0, if_true]
theorem space : Ev (fun k => impl_Escape.f k (⟨#[32]⟩ : ByteArray)) (strOfNums [37, 50, 48]) :=
  otto_escape_ev (⟨#[32]⟩ : ByteArray) (by decide) (fun c hc => by
    have e : bytesOf (⟨#[32]⟩ : ByteArray) = [32] := rfl
    rw [e] at hc
    rw [List.mem_singleton.1 hc]; omega)
theorem main (s : ByteArray) (hs : s.size ≤ 5000) (ha : ∀ c ∈ bytesOf s, c < 128) (hn : ∀ c ∈ bytesOf s, c ≠ 64) : Ev (fun k => laws_FnEscape.j0 k s false) true := by
  have hr : ∀ c ∈ bytesOf s, 0 ≤ c ∧ c < 128 := fun c hc => ⟨(bytes_range s c hc).1, ha c hc⟩
  have he := esc_range (bytesOf s) hr
  have hl := esc_length (bytesOf s)
  rw [bytesOf_length] at hl
  have hbe : bytesOf (strOfNums (esc (bytesOf s))) = esc (bytesOf s) := bytes_str _ (fun c hc => ⟨(he c hc).1, by have := (he c hc).2; omega⟩)
  have hse : (strOfNums (esc (bytesOf s))).size = (esc (bytesOf s)).length := strOfNums_size _
  have back : Ev (fun k => impl_Unescape.f k (strOfNums (esc (bytesOf s)))) s := by
    have := otto_unescape_ev (strOfNums (esc (bytesOf s))) (by omega) (fun c hc => by rw [hbe] at hc; exact (he c hc).2) (bytesOf s) (by rw [hbe, hse]; exact unesc_esc _ hr _ (Nat.le_refl _))
    rwa [str_bytes] at this
  have hE := otto_escape_ev s (by omega) ha
  have tail : Ev (fun k => (impl_Escape.f k s).bind fun t => (impl_Unescape.f k t).bind fun u => if u.toList = s.toList then ((impl_Escape.f k (⟨#[32]⟩ : ByteArray)).bind fun x => some (x.toList == ([37, 50, 48] : List UInt8))) else some false) true := by
    refine Ev.bind hE ?_
    refine Ev.bind back ?_
    simp only [if_true]
    refine Ev.bind space ?_
    have e : ((strOfNums [37, 50, 48]).toList == ([37, 50, 48] : List UInt8)) = true := by rw [ByteArray.toList_eq, strOfNums_data]; rfl
    rw [e]
    exact Ev.now _
  refine Ev.step (fun k => rfl) ?_
  simp only [laws_FnEscape.j0, Bool.false_eq_true, if_false]
  refine Ev.bind (spec_unescape_ev s (by omega) ha) ?_
  refine Ev.bind hE ?_
  refine Ev.bind (spec_escape_ev s (by omega) hn) ?_
  simp only [if_true]
  cases hu : unesc s.size (bytesOf s) with
  | none =>
    simp only [Bool.false_eq_true, if_false]
    exact tail
  | some zs =>
    simp only [if_true]
    refine Ev.bind (otto_unescape_ev s (by omega) ha zs hu) ?_
    simp only [if_true]
    exact tail
theorem FnEscape : laws_FnEscape.Pure := by
  intro s _
  refine Ev.rounds (g := fun k => laws_FnEscape.f k s) ?_
  unfold laws_FnEscape.f
  by_cases h1 : (s.size : Int) > 2147483647
  · simp only [h1, if_true]; exact Ev.now _
  · simp only [h1, if_false]
    by_cases h2 : (s.size : Int) > 5000
    · simp only [h2, if_true]; exact by_true s
    · simp only [h2, if_false]
      obtain ⟨b, hb, hB⟩ := ascii_ev s (by omega)
      refine Ev.bind hb ?_
      cases b with
      | false => simp only [Bool.false_eq_true, if_false]; exact by_true s
      | true =>
        simp only [if_true]
        obtain ⟨c, hc, hC⟩ := holds_ev s (by omega)
        refine Ev.bind hc ?_
        cases c with
        | true => exact by_true s
        | false => exact main s (by omega) (hB rfl) (hC rfl)
end Go.Proofs.YtllaepgbpmiglaaDoor.Pure
