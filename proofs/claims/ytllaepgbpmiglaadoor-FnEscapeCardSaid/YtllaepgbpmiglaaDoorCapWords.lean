/- make([]T, 0, c) makes an empty row of the call's own: nothing is asked but that c is not negative and that c elements take at most 2^48 bytes; string(rs) of a row of runes of the call's own. -/
import Derived.Test.YtllaepgbpmiglaaDoorWMore
import Derived.Laws.Cover4
namespace Go.Proofs.YtllaepgbpmiglaaDoorW.PrintMore
open Go.RowKit Go.Proofs.YtllaepgbpmiglaaDoorW.PrintWords
variable {P : Program} {ops : Array Oper} {rest : List Oper} {o : Oper} {a : Act} {Q : Exit → Act → World → Prop}
variable {α : Type}
theorem R_makecap (d : Kd α) {w0 W : World} (base e : Nat) (hgd : o.guard = none) {N : Tmp} (_hd : o.dst = some N) (t : TypeId) (x y : Operand) (ho : o.op = .makeSlice t x y) (n : Int) (hx : a.eval x = .int .i64 0) (hy : a.eval y = .int .i64 n)
    (ht : P.underlying t = some (.slice e)) (z : Value) (bytes : Nat) (hinfo : (P.info? e).map (fun i => (i.zero, i.size, i.bytes)) = some (some z, d.sz, bytes)) (_hs0 : 0 < d.sz) (hb0 : 0 < bytes)
    {ok _okp : Nat → Prop} (hfresh : ok W.heap.size) (h0 : 0 ≤ n) (hl : n.toNat * bytes ≤ 281474976710656) (HB : Below base w0 W) (hbase : base ≤ W.heap.size)
    (h : ∀ v1 w1, d.R e w1 base ok v1 ([] : List α) → Below base w0 w1 → W.grownBy w1 none → (∃ b, v1.ownBlock = some b ∧ W.heap.size ≤ b) → wpList P ops Q rest (a.put o.dst v1) w1) : wpList P ops Q (o :: rest) a W := by
  obtain ⟨m, rfl⟩ := Int.eq_ofNat_of_zero_le h0
  simp only [Int.toNat_natCast] at hl
  obtain ⟨i0, hi, hzz⟩ := Option.map_eq_some_iff.1 hinfo
  simp only [Prod.mk.injEq] at hzz
  obtain ⟨hz0, hz1, hz2⟩ := hzz
  have hm : m ≤ 281474976710656 := Nat.le_trans (Nat.le_mul_of_pos_right _ hb0) hl
  have h63 : m ≤ maxLen := by unfold maxLen; omega
  have hr := run_make (P := P) W t e i0 z ht hi hz0 .i64 .i64 0 (m : Int) (Int.le_refl _) (by omega)
    (by
      have h3 : ((i0.bytes * m : Nat) : Int) ≤ 281474976710656 := by rw [hz2, Nat.mul_comm]; omega
      rwa [Int.natCast_mul] at h3) (by omega)
  simp only [Int.toNat_zero, Int.toNat_natCast] at hr
  rw [hz1] at hr
  have own := World.ownsRow_made (base := base) (e := e) (size := d.sz) W (madeCells z.cells (m * d.sz)) m hbase h63 (size_madeCells _ _)
  refine Kd.event_run hgd (v := .slice (some ⟨W.heap.size, 0, none⟩) 0 m) (w1 := W.alloc (.cells (madeCells z.cells (m * d.sz)) e)) (by simp [execOp, ho, hx, hy, hr])
    (h _ _ ⟨fun k hk => ?_, [], by simpa using own, Reps.none _ _⟩ (HB.alloc hbase _) (World.grownBy_alloc W _ none) ⟨W.heap.size, by simp [Value.ownBlock], Nat.le_refl _⟩)
  have : W.heap.size = k := by simpa [Value.ownBlock] using hk
  subst this
  exact hfresh
theorem own_runes {w : World} {base n : Nat} {e' src dst e : TypeId} {v : Value} {xs : List Int} (hs : P.underlying src = some (.slice e)) (he : P.underlying e = some (.int .i32)) (hd : P.underlying dst = some .string)
    (h : w.ownsRow base e' 1 v n (nums .i32 xs)) : (convert src dst v).run P w = .ok (.string (runesBytes xs)) w := by
  have hl : xs.length = n := by have := h.1; simp [nums] at this; exact this
  rcases h.2 with ⟨rfl, rfl⟩ | ⟨g, cap, cur, rfl, _⟩
  · obtain rfl : xs = [] := List.eq_nil_of_length_eq_zero hl
    exact run_convert_runes_nil w src dst e 0 0 hs he hd
  · have hr := run_convert_runes (P := P) w src dst e ⟨g, 0, none⟩ n cap xs (by omega) hs he hd (fun j hj => by
      have hc := h.cells (g := g) rfl j (.int .i32 (xs.getD j 0)) (by simp [nums, List.getElem?_eq_getElem hj, List.getD_eq_getElem?_getD])
      exact hc)
    rw [List.take_of_length_le (by omega)] at hr
    exact hr
end Go.Proofs.YtllaepgbpmiglaaDoorW.PrintMore
