/- Walks: strconv.ParseUint(s, 0, 64) where s begins with 0x and at most 13 hexadecimal digits follow. Conditions: those. -/
import Derived.Test.YtllaepgbpmiglaaGreatDoorQNumx4
import Derived.Test.YtllaepgbpmiglaaGreatDoorNums
import Derived.Lib.AtoiErrMem
namespace Go.Proofs.YtllaepgbpmiglaaGreatDoor
open Go.RowKit Go.Proofs.YtllaepgbpmiglaaGreatDoorW.PrintWords Go.Proofs.YtllaepgbpmiglaaGreatDoor.QNum
theorem low_calls (c : Int) (w : World) : Calls Tryz.prog 46 #[.int .u8 c] w fun e w' => e = .returned (.int .u8 (low c)) ∧ Drawn0 w w' := strconv_lower.calls c _ w rfl
theorem u64w (x : Int) (h0 : 0 ≤ x) (h1 : x < 18446744073709551616) : IntKind.u64.wrap x = x := by
  show x % 18446744073709551616 = x
  omega
theorem letter_fin : ∀ n : Fin 256, 97 ≤ low (n.val : Int) → low (n.val : Int) ≤ 102 → 65 ≤ n.val ∧ n.val ≠ 95 := by decide +kernel
theorem letter_big (c : Int) (h0 : 0 ≤ c) (h1 : c ≤ 255) (h2 : 97 ≤ low c) (h3 : low c ≤ 102) : 65 ≤ c ∧ c ≠ 95 := by
  have h := letter_fin ⟨c.toNat, by omega⟩
  have e : ((c.toNat : Nat) : Int) = c := by omega
  simp only [e] at h
  have := h h2 h3
  omega
theorem byte_at (t : ByteArray) (j : Nat) : ((t.data.toList.getD j 0).toNat : Int) = bt t (j : Int) := by
  rw [← rd_bytesOf]
  simp only [rd, bytesOf, Int.toNat_natCast, List.getD_eq_getElem?_getD, List.getElem?_map]
  cases t.data.toList[j]? <;> rfl
theorem low_fin : ∀ n : Fin 256, 0 ≤ low (n.val : Int) ∧ low (n.val : Int) ≤ 255 ∧ (n.val < 48 → low (n.val : Int) < 97) := by decide +kernel
theorem low_range (c : Int) (h0 : 0 ≤ c) (h1 : c ≤ 255) : 0 ≤ low c ∧ low c ≤ 255 ∧ (c < 48 → low c < 97) := by
  have h := low_fin ⟨c.toNat, by omega⟩
  have e : ((c.toNat : Nat) : Int) = c := by omega
  simp only [e] at h
  exact ⟨h.1, h.2.1, fun hc => h.2.2 (by omega)⟩
theorem hexd_bad (c : Int) (h : hexd c = -1) : ¬ (48 ≤ c ∧ c ≤ 57) ∧ ¬ (97 ≤ low c ∧ low c ≤ 102) := by
  unfold hexd at h
  by_cases h9 : 48 ≤ c ∧ c ≤ 57
  · rw [if_pos h9] at h; omega
  · refine ⟨h9, fun hl => ?_⟩
    rw [if_neg h9, if_pos hl] at h
    omega
theorem toList_some {s : ByteArray} (h : 0 < s.size) : s.toList.isEmpty = false := by
  rw [ByteArray.toList_eq]
  cases hs : s.data.toList with
  | nil =>
    have h2 : s.data.size = 0 := by rw [← Array.length_toList, hs]; rfl
    have h3 : s.size = 0 := h2
    omega
  | cons a l => rfl
set_option maxHeartbeats 600000 in
set_option maxRecDepth 1000000 in
theorem puint_good (s t : ByteArray) (w : World) (h3 : 3 ≤ s.size) (h16 : s.size ≤ 15) (h0 : bt s 0 = 48) (h1 : low (bt s 1) = 120) (ht : t = s.extract 2 s.size) (hd : ∀ j : Nat, j < t.size → 0 ≤ hexd (bt t j)) :
    Calls Tryz.prog 38 #[.string s, .int .i64 0, .int .i64 64] w fun e w' => e = .returned (.tuple #[.int .u64 (hexVal t t.size), .nilIface]) ∧ Below w.heap.size w w' := by
  have hb0 : ∀ h : 0 < s.size, ((s[0]'h).toNat : Int) = 48 := fun h => (bt_at s 0 h).trans h0
  have hb1 : ∀ h : 1 < s.size, ((s[1]'h).toNat : Int) = bt s 1 := fun h => bt_at s 1 h
  have hem := empty_no (s := s) (by omega)
  have hlb : (low (bt s 1) == 98) = false := by rw [h1]; rfl
  have hlo : (low (bt s 1) == 111) = false := by rw [h1]; rfl
  have hlx : (low (bt s 1) == 120) = true := by rw [h1]; rfl
  subst ht
  have hem2 : s.toList.isEmpty = false := toList_some (by omega)
  have z0 : (0 < s.size) = True := eq_true (by omega)
  have z1 : (1 < s.size) = True := eq_true (by omega)
  have z0i : (0 < (s.size : Int)) = True := eq_true (by omega)
  have z1i : (1 < (s.size : Int)) = True := eq_true (by omega)
  have z2 : ((2 : Int) ≤ (s.size : Int)) = True := eq_true (by omega)
  have z2d : decide ((2 : Int) ≤ (s.size : Int)) = true := decide_eq_true (by omega)
  have z3 : ((3 : Int) ≤ (s.size : Int)) = True := eq_true (by omega)
  have z3d : decide ((3 : Int) ≤ (s.size : Int)) = true := decide_eq_true (by omega)
  have kb := fun W => print_bytes (P := Tryz.prog) 9 82 5 Tryz.underlying9 Tryz.underlying82 Tryz.underlying5 (s.extract 2 s.size) W
  go_enter Tryz.func38, Tryz.ntmps38
  go_wp2_with (go_at_call 46; refine (low_calls _ _).mono ?_; rintro e w1 ⟨rfl, ⟨nd, rfl⟩⟩)
  go_loopg [12, 13, 101] (s.extract 2 s.size).size (fun kq v12 v13 v101 w' => ∃ i : Nat, v12 = .bool false ∧ v13 = .int .u64 (hexVal (s.extract 2 s.size) i) ∧ v101 = .int .i64 i ∧ Aside0 (kq + i = (s.extract 2 s.size).size) ∧ Aside0 (Below w.heap.size w w')
    ∧ Aside0 (∀ j : Nat, j < (s.extract 2 s.size).size → w'.cell? ⟨w.heap.size, j, none⟩ = some (.int .u8 (bt (s.extract 2 s.size) j))))
  case atStart =>
    refine ⟨0, rfl, rfl, rfl, ⟨by omega⟩, ⟨?_⟩, ⟨?_⟩⟩
    · refine bytes_below ?_ ?_ 5 _
      · exact pw_below_drewN (Below.refl _ _) _
      · exact Nat.le_refl _
    · intro j hj
      exact (Lib.bytesWorld_cell _ 5 _ j hj).trans (by rw [byte_at])
  case round =>
    obtain ⟨i, rfl, rfl, rfl, hk, hbw, hcs⟩ := hrel
    cases gk with
    | zero =>
      have hi : i = (s.extract 2 s.size).size := by have := hk.out; omega
      have hlt : ((i : Int) < ((s.extract 2 s.size).size : Int)) = False := eq_false (by omega)
      go_wp2
      go_ret2
      exact ⟨by rw [← hi]; rfl, hbw.out⟩
    | succ k1 =>
      have hi : i < (s.extract 2 s.size).size := by have := hk.out; omega
      have hsz : (s.extract 2 s.size).size = s.size - 2 := by rw [ByteArray.size_extract]; omega
      have hlt : ((i : Int) < ((s.extract 2 s.size).size : Int)) = True := eq_true (by omega)
      have hc := hcs.out i hi
      have hr := bt_range (s.extract 2 s.size) i
      have hdg := hd i hi
      have hv := hexVal_small (s.extract 2 s.size) i (by omega) (fun j hj => hd j (by omega))
      have hcut : decide (1152921504606846976 ≤ hexVal (s.extract 2 s.size) i) = false := decide_eq_false (by omega)
      obtain ⟨n, hn⟩ : ∃ n, n = hexVal (s.extract 2 s.size) i := ⟨_, rfl⟩
      obtain ⟨c, hcc⟩ : ∃ c, c = bt (s.extract 2 s.size) i := ⟨_, rfl⟩
      have hstep : hexVal (s.extract 2 s.size) (i + 1) = 16 * n + hexd c := by rw [hcc, hn]; rfl
      rw [← hn] at hcut hv ⊢
      rw [← hcc] at hc hr hdg
      replace hn := Aside0.mk hn
      replace hcc := Aside0.mk hcc
      replace hstep := Aside0.mk hstep
      replace hd := Aside0.mk hd
      have hkk : Aside0 (k1 + (i + 1) = (s.extract 2 s.size).size) := ⟨by have := hk.out; omega⟩
      have hltn : (i < (s.extract 2 s.size).size) = True := eq_true hi
      have hltd : decide (i < s.size - 2) = true := decide_eq_true (by omega)
      have hlt2 : (i < s.size - 2) = True := eq_true (by omega)
      replace hsz := Aside0.mk hsz
      have hwi : Aside0 (wrap64 ((i : Int) + 1) = ((i + 1 : Nat) : Int)) := ⟨by have := hsz.out; unfold wrap64; omega⟩
      by_cases h9 : 48 ≤ c ∧ c ≤ 57
      · have e48 : decide (48 ≤ c) = true := decide_eq_true h9.1
        have e57 : decide (c ≤ 57) = true := decide_eq_true h9.2
        have e95 : (c == 95) = false := beq_eq_false_iff_ne.2 (by omega)
        have hx : Aside0 (hexd c = c - 48) := ⟨by unfold hexd; rw [if_pos h9]⟩
        have h16 : decide (16 ≤ c - 48) = false := decide_eq_false (by omega)
        have hw1 : IntKind.u64.wrap (n * 16) = 16 * n := by rw [u64w _ (by omega) (by omega)]; omega
        have hw2 : IntKind.u64.wrap (16 * n + (c - 48)) = 16 * n + (c - 48) := u64w _ (by omega) (by omega)
        have hmx : IntKind.u64.wrap (IntKind.u64.wrap 18446744073709551616 - 1) = 18446744073709551615 := by decide
        have hl1 : decide (16 * n + (c - 48) < 16 * n) = false := decide_eq_false (by omega)
        have hl2 : decide (18446744073709551615 < 16 * n + (c - 48)) = false := decide_eq_false (by omega)
        go_wp2
        go_roundg k1
        case measure => exact Nat.lt_succ_self _
        case rel =>
          refine ⟨i + 1, rfl, ?_, ?_, hkk, hbw, hcs⟩
          · rw [hstep.out, hx.out]
          · first | exact congrArg (Value.int .i64) hwi.out | rfl
      · have hl : 97 ≤ low c ∧ low c ≤ 102 := by
          unfold hexd at hdg
          rw [if_neg h9] at hdg
          by_cases hl : 97 ≤ low c ∧ low c ≤ 102
          · exact hl
          · rw [if_neg hl] at hdg
            omega
        have hx : Aside0 (hexd c = low c - 87) := ⟨by unfold hexd; rw [if_neg h9, if_pos hl]⟩
        have hbig := letter_big c hr.1 hr.2 hl.1 hl.2
        have hlow := fun W => low_calls c W
        clear h9
        obtain ⟨l, hlc⟩ : ∃ l, low c = l := ⟨_, rfl⟩
        rw [hlc] at hl hx
        simp only [hlc] at hlow
        clear hlc
        have e48 : decide (48 ≤ c) = true := decide_eq_true (by omega)
        have e57 : decide (c ≤ 57) = false := decide_eq_false (by omega)
        have e95 : (c == 95) = false := beq_eq_false_iff_ne.2 (by omega)
        have e97 : decide (97 ≤ l) = true := decide_eq_true hl.1
        have e122 : decide (l ≤ 122) = true := decide_eq_true (by omega)
        have h16 : decide (16 ≤ l - 97 + 10) = false := decide_eq_false (by omega)
        have hw1 : IntKind.u64.wrap (n * 16) = 16 * n := by rw [u64w _ (by omega) (by omega)]; omega
        have hw2 : IntKind.u64.wrap (16 * n + (l - 97 + 10)) = 16 * n + (l - 97 + 10) := u64w _ (by omega) (by omega)
        have hmx : IntKind.u64.wrap (IntKind.u64.wrap 18446744073709551616 - 1) = 18446744073709551615 := by decide
        have hl1 : decide (16 * n + (l - 97 + 10) < 16 * n) = false := decide_eq_false (by omega)
        have hl2 : decide (18446744073709551615 < 16 * n + (l - 97 + 10)) = false := decide_eq_false (by omega)
        have hsum : Aside0 (16 * n + (l - 97 + 10) = 16 * n + (l - 87)) := ⟨by omega⟩
        go_wp2_with (go_at_call 46; refine (hlow _).mono ?_; rintro e w1 ⟨rfl, ⟨nd, rfl⟩⟩)
        go_roundg k1
        case measure => exact Nat.lt_succ_self _
        case rel =>
          refine ⟨i + 1, rfl, ?_, ?_, hkk, ⟨by repeat (first | exact hbw.out | apply pw_below_drewN)⟩, ⟨fun j hj => hcs.out j hj⟩⟩
          · rw [hstep.out, hx.out, hsum.out]
          · first | exact congrArg (Value.int .i64) hwi.out | rfl
set_option maxHeartbeats 600000 in
set_option maxRecDepth 1000000 in
theorem puint_bad (s : ByteArray) (n0 : Nat) (w : World) (h3 : 3 ≤ s.size) (h5 : s.size ≤ 5000) (h0 : bt s 0 = 48) (h1 : low (bt s 1) = 120) (hn0 : n0 < (s.extract 2 s.size).size) (hn13 : n0 ≤ 13)
    (hd : ∀ j : Nat, j < n0 → 0 ≤ hexd (bt (s.extract 2 s.size) j)) (hb : hexd (bt (s.extract 2 s.size) n0) = -1) (hu : bt (s.extract 2 s.size) n0 ≠ 95) :
    Calls Tryz.prog 38 #[.string s, .int .i64 0, .int .i64 64] w fun e w' => e = .returned (.tuple #[.int .u64 0, .iface 55 (.int .i64 2)]) ∧ Below w.heap.size w w' := by
  replace hb := Aside0.mk hb
  replace hu := Aside0.mk hu
  replace hd := Aside0.mk hd
  replace hn0 := Aside0.mk hn0
  have hb0 : ∀ h : 0 < s.size, ((s[0]'h).toNat : Int) = 48 := fun h => (bt_at s 0 h).trans h0
  have hb1 : ∀ h : 1 < s.size, ((s[1]'h).toNat : Int) = bt s 1 := fun h => bt_at s 1 h
  have hem := empty_no (s := s) (by omega)
  have hlb : (low (bt s 1) == 98) = false := by rw [h1]; rfl
  have hlo : (low (bt s 1) == 111) = false := by rw [h1]; rfl
  have hlx : (low (bt s 1) == 120) = true := by rw [h1]; rfl
  have hem2 : s.toList.isEmpty = false := toList_some (by omega)
  have z0 : (0 < s.size) = True := eq_true (by omega)
  have z1 : (1 < s.size) = True := eq_true (by omega)
  have z0i : (0 < (s.size : Int)) = True := eq_true (by omega)
  have z1i : (1 < (s.size : Int)) = True := eq_true (by omega)
  have z2 : ((2 : Int) ≤ (s.size : Int)) = True := eq_true (by omega)
  have z2d : decide ((2 : Int) ≤ (s.size : Int)) = true := decide_eq_true (by omega)
  have z3 : ((3 : Int) ≤ (s.size : Int)) = True := eq_true (by omega)
  have z3d : decide ((3 : Int) ≤ (s.size : Int)) = true := decide_eq_true (by omega)
  have kb := fun W => print_bytes (P := Tryz.prog) 9 82 5 Tryz.underlying9 Tryz.underlying82 Tryz.underlying5 (s.extract 2 s.size) W
  go_enter Tryz.func38, Tryz.ntmps38
  go_wp2_with (go_at_call 46; refine (low_calls _ _).mono ?_; rintro e w1 ⟨rfl, ⟨nd, rfl⟩⟩)
  go_loopg [12, 13, 101] n0 (fun kq v12 v13 v101 w' => ∃ i : Nat, v12 = .bool false ∧ v13 = .int .u64 (hexVal (s.extract 2 s.size) i) ∧ v101 = .int .i64 i ∧ Aside0 (kq + i = n0) ∧ Aside0 (Below w.heap.size w w')
    ∧ Aside0 (∀ j : Nat, j < (s.extract 2 s.size).size → w'.cell? ⟨w.heap.size, j, none⟩ = some (.int .u8 (bt (s.extract 2 s.size) j))))
  case atStart =>
    refine ⟨0, rfl, rfl, rfl, ⟨by omega⟩, ⟨?_⟩, ⟨?_⟩⟩
    · refine bytes_below ?_ ?_ 5 _
      · exact pw_below_drewN (Below.refl _ _) _
      · exact Nat.le_refl _
    · intro j hj
      exact (Lib.bytesWorld_cell _ 5 _ j hj).trans (by rw [byte_at])
  case round =>
    obtain ⟨i, rfl, rfl, rfl, hk, hbw, hcs⟩ := hrel
    cases gk with
    | zero =>
      have hsz : (s.extract 2 s.size).size = s.size - 2 := by rw [ByteArray.size_extract]; omega
      obtain rfl : i = n0 := by have := hk.out; omega
      have hlt : ((i : Int) < ((s.extract 2 s.size).size : Int)) = True := eq_true (by have := hn0.out; omega)
      have hltd : decide (i < s.size - 2) = true := decide_eq_true (by have := hn0.out; omega)
      have hlt2 : (i < s.size - 2) = True := eq_true (by have := hn0.out; omega)
      replace hsz := Aside0.mk hsz
      have hc := hcs.out i hn0.out
      have hr := bt_range (s.extract 2 s.size) i
      have hb1 := hb.out
      have hu1 := hu.out
      obtain ⟨n, hn⟩ : ∃ n, n = hexVal (s.extract 2 s.size) i := ⟨_, rfl⟩
      obtain ⟨c, hcc⟩ : ∃ c, c = bt (s.extract 2 s.size) i := ⟨_, rfl⟩
      rw [← hn]
      rw [← hcc] at hc hr hb1 hu1
      replace hn := Aside0.mk hn
      replace hcc := Aside0.mk hcc
      have hbb := hexd_bad c hb1
      clear hb1
      have e95 : (c == 95) = false := beq_eq_false_iff_ne.2 hu1
      have hlow := fun W => low_calls c W
      obtain ⟨l, hlc⟩ : ∃ l, low c = l := ⟨_, rfl⟩
      rw [hlc] at hbb
      simp only [hlc] at hlow
      have hl0 := low_range c hr.1 hr.2
      rw [hlc] at hl0
      clear hlc
      by_cases h48 : 48 ≤ c
      · have e48 : decide (48 ≤ c) = true := decide_eq_true h48
        have e57 : decide (c ≤ 57) = false := decide_eq_false (by omega)
        clear h48
        by_cases hz : 97 ≤ l ∧ l ≤ 122
        · have e97 : decide (97 ≤ l) = true := decide_eq_true hz.1
          have e122 : decide (l ≤ 122) = true := decide_eq_true hz.2
          have h16 : decide (16 ≤ l - 97 + 10) = true := decide_eq_true (by omega)
          go_wp2_with (go_at_call 46; refine (hlow _).mono ?_; rintro e w1 ⟨rfl, ⟨nd, rfl⟩⟩)
          go_ret2
          exact ⟨rfl, by repeat (first | exact hbw.out | apply pw_below_drewN)⟩
        · by_cases h97 : 97 ≤ l
          · have e97 : decide (97 ≤ l) = true := decide_eq_true h97
            have e122 : decide (l ≤ 122) = false := decide_eq_false (by omega)
            clear hz h97
            go_wp2_with (go_at_call 46; refine (hlow _).mono ?_; rintro e w1 ⟨rfl, ⟨nd, rfl⟩⟩)
            go_ret2
            exact ⟨rfl, by repeat (first | exact hbw.out | apply pw_below_drewN)⟩
          · have e97 : decide (97 ≤ l) = false := decide_eq_false h97
            clear hz h97
            go_wp2_with (go_at_call 46; refine (hlow _).mono ?_; rintro e w1 ⟨rfl, ⟨nd, rfl⟩⟩)
            go_ret2
            exact ⟨rfl, by repeat (first | exact hbw.out | apply pw_below_drewN)⟩
      · have e48 : decide (48 ≤ c) = false := decide_eq_false h48
        have e97 : decide (97 ≤ l) = false := decide_eq_false (by have := hl0.2.2; omega)
        clear h48
        go_wp2_with (go_at_call 46; refine (hlow _).mono ?_; rintro e w1 ⟨rfl, ⟨nd, rfl⟩⟩)
        go_ret2
        exact ⟨rfl, by repeat (first | exact hbw.out | apply pw_below_drewN)⟩
    | succ k1 =>
      have hin : i < n0 := by have := hk.out; omega
      have hi : i < (s.extract 2 s.size).size := Nat.lt_trans hin hn0.out
      have hsz : (s.extract 2 s.size).size = s.size - 2 := by rw [ByteArray.size_extract]; omega
      have hlt : ((i : Int) < ((s.extract 2 s.size).size : Int)) = True := eq_true (by omega)
      have hc := hcs.out i hi
      have hr := bt_range (s.extract 2 s.size) i
      have hdg := hd.out i hin
      have hv := hexVal_small (s.extract 2 s.size) i (by omega) (fun j hj => hd.out j (by omega))
      have hcut : decide (1152921504606846976 ≤ hexVal (s.extract 2 s.size) i) = false := decide_eq_false (by omega)
      obtain ⟨n, hn⟩ : ∃ n, n = hexVal (s.extract 2 s.size) i := ⟨_, rfl⟩
      obtain ⟨c, hcc⟩ : ∃ c, c = bt (s.extract 2 s.size) i := ⟨_, rfl⟩
      have hstep : hexVal (s.extract 2 s.size) (i + 1) = 16 * n + hexd c := by rw [hcc, hn]; rfl
      rw [← hn] at hcut hv ⊢
      rw [← hcc] at hc hr hdg
      replace hn := Aside0.mk hn
      replace hcc := Aside0.mk hcc
      replace hstep := Aside0.mk hstep
      have hkk : Aside0 (k1 + (i + 1) = n0) := ⟨by have := hk.out; omega⟩
      have hltn : (i < (s.extract 2 s.size).size) = True := eq_true hi
      have hltd : decide (i < s.size - 2) = true := decide_eq_true (by omega)
      have hlt2 : (i < s.size - 2) = True := eq_true (by omega)
      replace hsz := Aside0.mk hsz
      have hwi : Aside0 (wrap64 ((i : Int) + 1) = ((i + 1 : Nat) : Int)) := ⟨by have := hsz.out; unfold wrap64; omega⟩
      by_cases h9 : 48 ≤ c ∧ c ≤ 57
      · have e48 : decide (48 ≤ c) = true := decide_eq_true h9.1
        have e57 : decide (c ≤ 57) = true := decide_eq_true h9.2
        have e95 : (c == 95) = false := beq_eq_false_iff_ne.2 (by omega)
        have hx : Aside0 (hexd c = c - 48) := ⟨by unfold hexd; rw [if_pos h9]⟩
        have h16 : decide (16 ≤ c - 48) = false := decide_eq_false (by omega)
        have hw1 : IntKind.u64.wrap (n * 16) = 16 * n := by rw [u64w _ (by omega) (by omega)]; omega
        have hw2 : IntKind.u64.wrap (16 * n + (c - 48)) = 16 * n + (c - 48) := u64w _ (by omega) (by omega)
        have hmx : IntKind.u64.wrap (IntKind.u64.wrap 18446744073709551616 - 1) = 18446744073709551615 := by decide
        have hl1 : decide (16 * n + (c - 48) < 16 * n) = false := decide_eq_false (by omega)
        have hl2 : decide (18446744073709551615 < 16 * n + (c - 48)) = false := decide_eq_false (by omega)
        go_wp2
        go_roundg k1
        case measure => exact Nat.lt_succ_self _
        case rel =>
          refine ⟨i + 1, rfl, ?_, ?_, hkk, hbw, hcs⟩
          · rw [hstep.out, hx.out]
          · first | exact congrArg (Value.int .i64) hwi.out | rfl
      · have hl : 97 ≤ low c ∧ low c ≤ 102 := by
          unfold hexd at hdg
          rw [if_neg h9] at hdg
          by_cases hl : 97 ≤ low c ∧ low c ≤ 102
          · exact hl
          · rw [if_neg hl] at hdg
            omega
        have hx : Aside0 (hexd c = low c - 87) := ⟨by unfold hexd; rw [if_neg h9, if_pos hl]⟩
        have hbig := letter_big c hr.1 hr.2 hl.1 hl.2
        have hlow := fun W => low_calls c W
        clear h9
        obtain ⟨l, hlc⟩ : ∃ l, low c = l := ⟨_, rfl⟩
        rw [hlc] at hl hx
        simp only [hlc] at hlow
        clear hlc
        have e48 : decide (48 ≤ c) = true := decide_eq_true (by omega)
        have e57 : decide (c ≤ 57) = false := decide_eq_false (by omega)
        have e95 : (c == 95) = false := beq_eq_false_iff_ne.2 (by omega)
        have e97 : decide (97 ≤ l) = true := decide_eq_true hl.1
        have e122 : decide (l ≤ 122) = true := decide_eq_true (by omega)
        have h16 : decide (16 ≤ l - 97 + 10) = false := decide_eq_false (by omega)
        have hw1 : IntKind.u64.wrap (n * 16) = 16 * n := by rw [u64w _ (by omega) (by omega)]; omega
        have hw2 : IntKind.u64.wrap (16 * n + (l - 97 + 10)) = 16 * n + (l - 97 + 10) := u64w _ (by omega) (by omega)
        have hmx : IntKind.u64.wrap (IntKind.u64.wrap 18446744073709551616 - 1) = 18446744073709551615 := by decide
        have hl1 : decide (16 * n + (l - 97 + 10) < 16 * n) = false := decide_eq_false (by omega)
        have hl2 : decide (18446744073709551615 < 16 * n + (l - 97 + 10)) = false := decide_eq_false (by omega)
        have hsum : Aside0 (16 * n + (l - 97 + 10) = 16 * n + (l - 87)) := ⟨by omega⟩
        go_wp2_with (go_at_call 46; refine (hlow _).mono ?_; rintro e w1 ⟨rfl, ⟨nd, rfl⟩⟩)
        go_roundg k1
        case measure => exact Nat.lt_succ_self _
        case rel =>
          refine ⟨i + 1, rfl, ?_, ?_, hkk, ⟨by repeat (first | exact hbw.out | apply pw_below_drewN)⟩, ⟨fun j hj => hcs.out j hj⟩⟩
          · rw [hstep.out, hx.out, hsum.out]
          · first | exact congrArg (Value.int .i64) hwi.out | rfl
end Go.Proofs.YtllaepgbpmiglaaGreatDoor
