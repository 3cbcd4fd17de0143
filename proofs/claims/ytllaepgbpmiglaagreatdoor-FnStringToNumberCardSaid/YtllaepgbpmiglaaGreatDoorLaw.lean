/- Walks: the law and its small helpers. Conditions: the tables and the sentinels lie as they are laid. -/
import Derived.Test.YtllaepgbpmiglaaGreatDoorSame
namespace Go.Proofs.YtllaepgbpmiglaaGreatDoor
open Go.RowKit Go.Proofs.YtllaepgbpmiglaaGreatDoorW.PrintWords Go.Proofs.YtllaepgbpmiglaaGreatDoor.QNum Floats
/-- A call in any later world. -/
abbrev Clo (w : World) (f : FuncId) (args : Array Value) (v : Value) : Prop :=
  ∀ W, Below w.heap.size w W → Calls Tryz.prog f args W fun e w' => e = .returned v ∧ Below w.heap.size w w'
theorem bits_nan (v : Nat) (h : IsNan v) (w : World) : Clo w 6 #[.float .f64 v] (.int .u64 9221120237041090561) := by
  intro W hb
  have ho := order_nan v h
  have hx14 := ext14
  have e1 : (FloatKind.f64.format.order v v != some .eq) = true := by rw [ho]; rfl
  clear ho
  go_enter Tryz.func6, Tryz.ntmps6
  go_wp2_with (go_at_call 15; refine (nan_calls _).mono ?_; rintro e w1 ⟨rfl, ⟨nd, rfl⟩⟩)
  go_ret
  exact ⟨rfl, by repeat (first | exact hb | apply pw_below_drewN)⟩
theorem bits_num (v : Nat) (h : FloatKind.f64.format.order v v = some .eq) (w : World) : Clo w 6 #[.float .f64 v] (.int .u64 v) := by
  intro W hb
  have hx14 := ext14
  have e1 : (FloatKind.f64.format.order v v != some .eq) = false := by rw [h]; rfl
  clear h
  go_enter Tryz.func6, Tryz.ntmps6
  go_wp2_with (go_at_call 15; refine (nan_calls _).mono ?_; rintro e w1 ⟨rfl, ⟨nd, rfl⟩⟩)
  go_ret
  exact ⟨rfl, by repeat (first | exact hb | apply pw_below_drewN)⟩
theorem zznum (s : ByteArray) (v : Nat) (w : World) (h : ∀ W, Below w.heap.size w W → Pn s W v) : Clo w 16 #[.string s] (.float .f64 v) := by
  intro W hb
  have h2 := h W hb
  go_enter Tryz.func16, Tryz.ntmps16
  go_wp2_with (go_at_call 17; refine h2.mono ?_; rintro e w1 ⟨rfl, hb1⟩)
  go_ret
  exact ⟨rfl, hb.trans (hb1.mono hb.size)⟩
theorem tonum (s : ByteArray) (v : Nat) (w : World) (h : ∀ W, Below w.heap.size w W → Pn s W v) : Clo w 8 #[.string s] (.int .u64 v) := by
  intro W hb
  have h2 := zznum s v w h W hb
  have hx14 := ext14
  go_enter Tryz.func8, Tryz.ntmps8
  go_wp2_with (go_at_call 16; refine h2.mono ?_; rintro e w1 ⟨rfl, hb1⟩)
  go_ret
  exact ⟨rfl, by repeat (first | exact hb1 | apply pw_below_drewN)⟩
/-- What both answers' bits come to. -/
theorem agree_bits (r v : Nat) (h : Agree r v) (w : World) : ∃ c : Int, Clo w 6 #[.float .f64 r] (.int .u64 c) ∧ Clo w 6 #[.float .f64 v] (.int .u64 c) := by
  rcases h with ⟨hr, rfl⟩ | ⟨rfl, neg, q, hq, hw⟩
  · exact ⟨9221120237041090561, bits_nan r hr w, bits_nan _ not_nan_nanW w⟩
  · have ho : FloatKind.f64.format.order v v = some .eq := by rw [hw]; exact order_self neg q hq
    exact ⟨v, bits_num v ho w, bits_num v ho w⟩
abbrev oneB : ByteArray := ⟨#[49]⟩
theorem one_asc : Asc oneB := ⟨by decide, fun j hj => by
  have h1 : oneB.size = 1 := by decide
  obtain rfl : j = 0 := by omega
  decide⟩
theorem one_trim : trim oneB = oneB := by kernel_rfl
theorem one_says : Says (trim oneB) 4607182418800017408 := by
  rw [one_trim]
  have hq : floatBits .quo .f64 (floatOfInt .f64 1) (powW 0) = some 4607182418800017408 := by decide +kernel
  have hm : floatBits .mul .f64 4607182418800017408 4607182418800017408 = some 4607182418800017408 := by decide +kernel
  have h49 : bt oneB ((0 + 0 : Nat) : Int) = 49 := by decide
  have e : 10 * (0 : Int) + (bt oneB ((0 + 0 : Nat) : Int) - 48) = 1 := by rw [h49]; decide
  refine .frac 0 1 false 4607182418800017408 (by decide) (.inl ⟨rfl, rfl, by decide, by decide⟩) (by decide) (by decide) ?_ (.inl (by rw [one_word_false]; exact hm))
  refine Shape.digit 0 0 0 0 false _ (by omega) (by show 48 ≤ bt oneB ((0 + 0 : Nat) : Int) ∧ bt oneB ((0 + 0 : Nat) : Int) ≤ 57; rw [h49]; omega) (by omega) ?_
  rw [e, if_neg Bool.false_ne_true]
  exact Shape.done 1 1 1 0 false _ rfl (by omega) hq
theorem one_ne {v : Nat} (h : Agree 4607182418800017408 v) : v ≠ 0 := by
  rcases h with ⟨_, rfl⟩ | ⟨rfl, _⟩
  · decide
  · decide
theorem agree_one {r v v' : Nat} (h : Agree r v) (h' : Agree r v') : v = v' := by
  rcases h with ⟨hn, e⟩ | ⟨e, neg, q, hq, hw⟩
  · rcases h' with ⟨_, e'⟩ | ⟨_, neg, q, hq, hw⟩
    · rw [e, e']
    · have h1 := order_nan r hn
      rw [hw, order_self neg q hq] at h1
      cases h1
  · rcases h' with ⟨hn, _⟩ | ⟨e', _⟩
    · have h1 := order_nan r hn
      rw [hw, order_self neg q hq] at h1
      cases h1
    · rw [e, e']
theorem pn_all (s : ByteArray) (w : World) (a b pa : Addr) (cap : Nat) (G : Ground w a b pa cap) (hA : Asc s) (r : Nat) (h : Says (trim s) r) : ∃ v, Agree r v ∧ Clo w 8 #[.string s] (.int .u64 (v : Int)) := by
  obtain ⟨v, hv, _⟩ := pn s w a b pa cap G hA r h
  refine ⟨v, hv, tonum s v w (fun W hW => ?_)⟩
  obtain ⟨v', hv', hp⟩ := pn s W a b pa cap (G.below hW) hA r h
  rw [agree_one hv hv']
  exact hp
theorem ascii_at (s : ByteArray) (h5 : s.size ≤ 5000) : ∀ (d i : Nat), d = s.size - i → i ≤ s.size → (∀ j : Nat, j < i → bt s j < 128) → ∃ r, Ev (fun g => spec_ascii.l0 g s s.size i) r ∧ (r = true → ∀ j : Nat, j < s.size → bt s j < 128)
  | 0, i, hd, hi, hall => by
    have c1 : ((i : Int) < (s.size : Int)) = False := eq_false (by omega)
    refine ⟨true, Ev.step (fun g => rfl) ?_, fun _ j hj => hall j (by omega)⟩
    simp only [spec_ascii.l0, c1, if_false]
    exact Ev.now _
  | d + 1, i, hd, hi, hall => by
    have c1 : ((i : Int) < (s.size : Int)) = True := eq_true (by omega)
    have c2 : ((0 : Int) ≤ (i : Int)) = True := eq_true (by omega)
    by_cases h128 : bt s i ≥ 128
    · refine ⟨false, Ev.step (fun g => rfl) ?_, fun h => absurd h Bool.false_ne_true⟩
      simp only [spec_ascii.l0, c1, c2, if_true, eq_true h128]
      exact Ev.now _
    · obtain ⟨r, h1, h2⟩ := ascii_at s h5 d (i + 1) (by omega) (by omega) (fun j hj => by
        by_cases hj2 : j = i
        · rw [hj2]; omega
        · exact hall j (by omega))
      have hw : wrap64 ((i : Int) + 1) = ((i + 1 : Nat) : Int) := w64 _ (by omega) (by omega)
      refine ⟨r, Ev.step (fun g => rfl) ?_, h2⟩
      simp only [spec_ascii.l0, c1, c2, if_true, eq_false h128, if_false, hw]
      exact h1
theorem ascii_ev (s : ByteArray) (h5 : s.size ≤ 5000) : ∃ r g, spec_ASCII.f g s = some r ∧ (r = true → Asc s) := by
  obtain ⟨r, h1, h2⟩ := ascii_at s h5 s.size 0 (by omega) (by omega) (fun j hj => by omega)
  obtain ⟨g, hg⟩ := h1.rounds
  refine ⟨r, g, ?_, fun h => ⟨h5, h2 h⟩⟩
  unfold spec_ASCII.f spec_ascii.f
  rw [show spec_ascii.l0 g s (s.size : Int) 0 = some r from hg]
  rfl
set_option maxHeartbeats 2000000 in
set_option maxRecDepth 1000000 in
/-- The law, whatever the text. -/
theorem law (s : ByteArray) (w : World) (a b pa : Addr) (cap : Nat) (G : Ground w a b pa cap) :
    Calls Tryz.prog 3 #[.string s] w fun e w' => e = .returned (.bool true) ∧ Below w.heap.size w w' := by
  replace G := Aside0.mk G
  by_cases hbig : 2147483647 < (s.size : Int)
  · have g1 : decide (2147483647 < (s.size : Int)) = true := decide_eq_true hbig
    go_enter Tryz.func3, Tryz.ntmps3
    go_wp2
    go_ret
    exact ⟨rfl, by repeat (first | exact Below.refl _ _ | apply pw_below_drewN)⟩
  · have g1 : decide (2147483647 < (s.size : Int)) = false := decide_eq_false hbig
    by_cases h5 : 5000 < (s.size : Int)
    · have g2 : decide (5000 < (s.size : Int)) = true := decide_eq_true h5
      have g2n : decide (5000 < s.size) = true := decide_eq_true (by omega)
      clear hbig h5
      go_enter Tryz.func3, Tryz.ntmps3
      go_wp2
      go_ret
      exact ⟨rfl, by repeat (first | exact Below.refl _ _ | apply pw_below_drewN)⟩
    · have g2 : decide (5000 < (s.size : Int)) = false := decide_eq_false h5
      have g2n : decide (5000 < s.size) = false := decide_eq_false (by omega)
      obtain ⟨A, gA, hgA, hasc⟩ := ascii_ev s (by omega)
      clear hbig h5
      have hA4 : ∀ W, Calls Tryz.prog 4 #[.string s] W fun e w' => e = .returned (.bool A) ∧ Drawn0 W w' := fun W => spec_ASCII.calls gA s A W hgA
      replace hA4 := Aside0.mk hA4
      cases A
      · go_enter Tryz.func3, Tryz.ntmps3
        go_wp2_with (go_at_call 4; refine (hA4.out _).mono ?_; rintro e w1 ⟨rfl, ⟨nd, rfl⟩⟩)
        go_ret
        exact ⟨rfl, by repeat (first | exact Below.refl _ _ | apply pw_below_drewN)⟩
      · have hAs := hasc rfl
        clear hasc
        have hS := fun W => snum s W hAs
        replace hS := Aside0.mk hS
        go_enter Tryz.func3, Tryz.ntmps3
        go_upto_region 5 with (go_at_call 4; refine (hA4.out _).mono ?_; rintro e w1 ⟨rfl, ⟨nd, rfl⟩⟩)
        go_upto_region 6 with (go_at_call 5; refine (hS.out _).mono ?_; rintro e w1 ⟨r, B, rfl, hb0, hsays⟩)
        have hb : Below w.heap.size w w1 := (by first | exact hb0 | exact (pw_below_drewN (Below.refl _ w) _).trans hb0)
        clear hb0
        cases B
        · clear hsays
          go_wp2
          go_ret
          exact ⟨rfl, by repeat (first | exact hb | apply pw_below_drewN)⟩
        · have G1 := G.out.below hb
          have hw1 := Aside0.mk hb
          clear hb
          obtain ⟨v, hag, h8⟩ := pn_all s w1 a b pa cap G1 hAs r (hsays rfl)
          obtain ⟨u, hag1, h81⟩ := pn_all oneB w1 a b pa cap G1 one_asc _ one_says
          obtain ⟨c, h6r, h6v⟩ := agree_bits r v hag w1
          have hN1 := one_ne hag1
          have hu : ((u : Int) != 0) = true := bne_iff_ne.2 (by omega)
          have hcc : (c == c) = true := beq_iff_eq.2 rfl
          have hx7 := ext7
          have htn : ((v : Int)).toNat = v := Int.toNat_natCast v
          clear hag hag1 hN1 hsays G1
          replace h8 := Aside0.mk h8
          replace h81 := Aside0.mk h81
          replace h6r := Aside0.mk h6r
          replace h6v := Aside0.mk h6v
          have hb : Below w1.heap.size w1 w1 := Below.refl _ _
          go_wp2_with (first | (go_at_call 8; (refine (h8.out _ ?_).mono ?_; (first | exact hb | exact pw_below_drewN hb _); rintro e w' ⟨rfl, hb⟩)) | (go_at_call 8; (refine (h81.out _ ?_).mono ?_; (first | exact hb | exact pw_below_drewN hb _); rintro e w' ⟨rfl, hb⟩)) | (go_at_call 6; (refine (h6v.out _ ?_).mono ?_; (first | exact hb | exact pw_below_drewN hb _); rintro e w' ⟨rfl, hb⟩)) | (go_at_call 6; (refine (h6r.out _ ?_).mono ?_; (first | exact hb | exact pw_below_drewN hb _); rintro e w' ⟨rfl, hb⟩)))
          go_ret
          refine ⟨rfl, ?_⟩
          first
          | exact hw1.out.trans (hb.mono hw1.out.size)
          | exact pw_below_drewN (hw1.out.trans (hb.mono hw1.out.size)) _
end Go.Proofs.YtllaepgbpmiglaaGreatDoor
