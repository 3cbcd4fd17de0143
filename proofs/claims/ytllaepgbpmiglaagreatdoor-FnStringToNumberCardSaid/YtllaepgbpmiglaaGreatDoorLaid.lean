/- The laid variables that the law's calls read, as cells: out of the card's premise. -/
import Derived.Test.YtllaepgbpmiglaaGreatDoorRows
import Derived.Test.YtllaepgbpmiglaaGreatDoorAnswer
import Derived.Stop.LaidTwo
import Derived.Deep.Strs
import Derived.ChangeSlices
import Derived.LaidMore
namespace Go.Proofs.YtllaepgbpmiglaaGreatDoor
open Go.ChangeShapes Go.WideShapes Go.ChangeAt Go.RowKit Go.Proofs.YtllaepgbpmiglaaGreatDoorW.PrintWords Floats
theorem laid_head {n : String} {d : DataW Unit} {r : List (String × DataW Unit)} {W : World} (h : laidMet Tryz.prog ((n, d) :: r) W) {g t : Nat} (hg : Tryz.prog.globalNamed n = some g) (ht : (Tryz.prog.globals[g]?).map (·.type) = some t) :
    ∃ cs fuel p, W.var? Tryz.prog n = some cs ∧ DataW.trod (fun _ => ()) Tryz.prog W 0 (fun _ => true) false fuel t cs.toList = some (d, p) := by
  obtain ⟨ps, ⟨g', t', cs, fuel, p, q, hg', ht', hv, hd, _, _⟩, _, _⟩ := h
  obtain rfl := Option.some.inj (hg.symm.trans hg')
  obtain rfl := Option.some.inj (ht.symm.trans ht')
  exact ⟨cs, fuel, p, hv, hd⟩
theorem trod_f64 {H : Type} {enc : TypeId × Value → H} {P : Program} {w : World} {base : Nat} {spare : Nat → Bool} {held : Bool} {fuel : Nat} {t : TypeId} {cs : List Value} {x : DataW H × List MemPlace} (ht : P.underlying t = some (.float .f64))
    (h : DataW.trod enc P w base spare held fuel t cs = some x) : ∃ b, cs = [.float .f64 b] ∧ x = (.lit (.float .f64 b), []) := by
  cases fuel with
  | zero => simp [DataW.trod] at h
  | succ n =>
    unfold DataW.trod at h
    rw [ht] at h
    split at h <;> simp_all
theorem cell_of {W : World} {n : String} {g : Nat} {cs : Array Value} (hg : Tryz.prog.globalNamed n = some g) (hv : W.var? Tryz.prog n = some cs) {v : Value} (h : cs.toList[0]? = some v) : W.cell? ⟨g, 0, none⟩ = some v := by
  rw [World.var?_cell hg hv 0]
  simpa using h
theorem opt_cell {r : List (String × DataW Unit)} {W : World} (h : laidMet Tryz.prog (("internal/strconv.optimize", Rows.laid_internal_strconv_optimize) :: r) W) : W.cell? ⟨6, 0, none⟩ = some (.bool true) := by
  obtain ⟨cs, fuel, p, hv, hd⟩ := laid_head h (g := 6) (t := 4) (by kernel_rfl) (by kernel_rfl)
  obtain ⟨b, e1, e2⟩ := DataW.trod_bool Tryz.underlying4 hd
  have e3 : b = true := by
    have := (Prod.mk.inj e2).1
    unfold Rows.laid_internal_strconv_optimize at this
    injection this with e
    injection e with e
    exact e.symm
  exact cell_of (by kernel_rfl) hv (by rw [e1, e3]; rfl)
set_option maxRecDepth 100000 in
theorem info_cell {r : List (String × DataW Unit)} {W : World} (h : laidMet Tryz.prog (("internal/strconv.float64info", Rows.laid_internal_strconv_float64info) :: r) W) : W.cell? ⟨7, 0, none⟩ = some (.int .u64 52) := by
  obtain ⟨cs, fuel, p, hv, hd⟩ := laid_head h (g := 7) (t := 94) (by kernel_rfl) (by kernel_rfl)
  obtain ⟨y0, y1, y2, m, e, _, h0, _, _⟩ := Go.Deep.trod_struct3 Tryz.underlying94 hd
  have c34 : Tryz.prog.cellsOf 34 = 1 := by kernel_rfl
  obtain ⟨z, e1, e2, _⟩ := DataW.trod_int Tryz.underlying34 h0
  rw [c34] at e1
  have e3 : z = 52 := by
    have := (Prod.mk.inj e).1
    unfold Rows.laid_internal_strconv_float64info at this
    injection this with e
    injection e with e _
    rw [e2] at e
    injection e with e
    injection e with _ e
    exact e.symm
  refine cell_of (by kernel_rfl) hv ?_
  rw [← e3]
  have h1 : ((cs.toList.drop 0).take 1)[0]? = some (.int .u64 z) := by rw [e1]; rfl
  simpa using h1
set_option maxRecDepth 100000 in
theorem pow_cells {r : List (String × DataW Unit)} {W : World} (h : laidMet Tryz.prog (("internal/strconv.float64pow10", Rows.laid_internal_strconv_float64pow10) :: r) W) :
    ∃ pa cap, W.cell? ⟨10, 0, none⟩ = some (.slice (some pa) 23 cap) ∧ ∀ k : Nat, k ≤ 15 → W.cell? (pa.add k) = some (.float .f64 (powW k)) := by
  obtain ⟨cs, fuel, p, hv, hd⟩ := laid_head h (g := 10) (t := 131) (by kernel_rfl) (by kernel_rfl)
  have c23 : Tryz.prog.cellsOf 23 = 1 := by kernel_rfl
  rcases DataW.trod_slice Tryz.underlying131 hd with ⟨_, e⟩ | ⟨pa, len, cap, elems, rest, n, _, e1, e2, _, _, _, hl, hel, _⟩
  · have := (Prod.mk.inj e).1
    unfold Rows.laid_internal_strconv_float64pow10 at this
    cases this
  · have e3 := (Prod.mk.inj e2).1
    unfold Rows.laid_internal_strconv_float64pow10 at e3
    injection e3 with e3 _
    have hlen : elems.length = 23 := by
      have := congrArg List.length e3
      rw [List.length_map] at this
      exact this.symm
    have hl23 : len = 23 := by omega
    refine ⟨pa, cap, cell_of (by kernel_rfl) hv (by rw [e1, hl23]; rfl), fun k hk => ?_⟩
    have hE := hel k (by omega)
    rw [c23, Nat.mul_one, List.getElem?_eq_getElem (by omega)] at hE
    obtain ⟨cs', hc, ht⟩ := Option.bind_eq_some_iff.1 hE
    obtain ⟨b, f1, f2⟩ := trod_f64 Tryz.underlying23 ht
    rw [f1] at hc
    rw [cell_of_cells?_one hc]
    have e4 := congrArg (fun l => l[k]?) e3
    simp only [List.getElem?_map, List.getElem?_eq_getElem (show k < elems.length by omega), Option.map_some] at e4
    rw [f2] at e4
    have e5 : b = powW k := by
      have hk2 : k = 0 ∨ k = 1 ∨ k = 2 ∨ k = 3 ∨ k = 4 ∨ k = 5 ∨ k = 6 ∨ k = 7 ∨ k = 8 ∨ k = 9 ∨ k = 10 ∨ k = 11 ∨ k = 12 ∨ k = 13 ∨ k = 14 ∨ k = 15 := by omega
      rcases hk2 with rfl | rfl | rfl | rfl | rfl | rfl | rfl | rfl | rfl | rfl | rfl | rfl | rfl | rfl | rfl | rfl <;> (have e6 := Option.some.inj e4; injection e6 with e6; injection e6 with _ e6; exact e6.symm)
    rw [e5]
theorem starS : "*" ++ "errors.errorString" = "*errors.errorString" := by decide
theorem row111 (u : TypeId) (h : Tryz.prog.typeName? 3 u = some "*errors.errorString") : u = 111 :=
  typeName_ptr_named (nm := "errors.errorString") (by rw [starS]; kernel_rfl) (by kernel_rfl) (by decide) u (by rw [starS]; exact h)
theorem heap_lt {W : World} {b : Nat} {o : Obj} (h : W.heap[b]? = some o) : b < W.heap.size := by
  obtain ⟨h, _⟩ := Array.getElem?_eq_some_iff.1 h
  exact h
set_option maxRecDepth 100000 in
theorem ground {W : World} (h : laidMetH Tryz.prog Rows.fnStringToNumberRow.laid W) : ∃ a b pa cap, Ground W a b pa cap := by
  rw [MakeChecks.laidMetH_plain _ _ _ (by kernel_rfl)] at h
  have h3 := laidMet.tail (laidMet.tail (laidMet.tail h))
  have h4 := laidMet.tail h3
  have h6 := laidMet.tail (laidMet.tail h4)
  have h10 := laidMet.tail (laidMet.tail (laidMet.tail (laidMet.tail h6)))
  have hinfo := info_cell h3
  have hopt := opt_cell h4
  obtain ⟨pa, cap, htab, hpow⟩ := pow_cells h6
  obtain ⟨a0, a1, s0, s1, c0, c1, t0, t1, hv0, hv1, hc0, _, _, hc1, _, _, hne, hb0, hb1⟩ := laid_sentinels2 (g0 := 1) (g1 := 2) h10 (by kernel_rfl) (by kernel_rfl) (by kernel_rfl) (by kernel_rfl) Tryz.underlying38 row111 Tryz.underlying111 Tryz.underlying113 rfl rfl Tryz.underlying9 (by kernel_rfl) (by kernel_rfl)
  have k1 : W.cell? ⟨1, 0, none⟩ = some (.iface 111 (.pointer (some a0))) := cell_of (by kernel_rfl) hv0 rfl
  have k2 : W.cell? ⟨2, 0, none⟩ = some (.iface 111 (.pointer (some a1))) := cell_of (by kernel_rfl) hv1 rfl
  have h10l := World.block_lt_of_cell? _ _ htab
  have hpl := World.block_lt_of_cell? _ _ (hpow 0 (by omega))
  exact ⟨a1, a0, pa, cap, {
    sents := { hv := k1, hne := fun e => hne e.symm, ha := ⟨_, _, hb1⟩, hb := ⟨_, _, hb0⟩, h1 := World.block_lt_of_cell? _ _ k1, la := heap_lt hb1, lb := heap_lt hb0 }
    h2 := k2
    h10 := h10l
    hpa := by rwa [add_block] at hpl
    hopt := hopt
    hinfo := hinfo
    htab := htab
    hpow := hpow }⟩
end Go.Proofs.YtllaepgbpmiglaaGreatDoor
