import Derived.Test.Qxb6615485aAt
namespace Go.Proofs.Qxb6615485a
open Go.RowKit

/-- how many of the first j bytes are seen -/
def cnt (t : ByteArray) (i : Int) : Nat → Int
  | 0 => 0
  | j + 1 => cnt t i j + if atB t i j then 1 else 0

theorem cnt_out {t : ByteArray} {i : Int} (h : (t.size : Int) ≤ i) (j : Nat) : cnt t i j = 0 := by
  induction j with
  | zero => rfl
  | succ j ih => rw [cnt, ih, atB_out h]; rfl

theorem cnt_in {t : ByteArray} {n : Nat} (h : n < t.size) (j : Nat) : cnt t n j = if (t[n]'h).toNat < j then 1 else 0 := by
  induction j with
  | zero => simp [cnt]
  | succ j ih =>
    rw [cnt, ih, atB_in h]
    by_cases e : (t[n]'h).toNat = j
    · rw [if_neg (by omega), if_pos (by rw [beq_iff_eq]; omega), if_pos (by omega)]
      rfl
    · rw [if_neg (c := (((t[n]'h).toNat : Int) == (j : Int)) = true) (by rw [beq_iff_eq]; omega), Int.add_zero]
      by_cases hlt : (t[n]'h).toNat < j
      · rw [if_pos hlt, if_pos (by omega)]
      · rw [if_neg hlt, if_neg (by omega)]

theorem cnt_bd (t : ByteArray) (i : Int) (j : Nat) : 0 ≤ cnt t i j ∧ cnt t i j ≤ j := by
  induction j with
  | zero => simp [cnt]
  | succ j ih =>
    rw [cnt]
    split <;> omega

theorem cnt_all_in {t : ByteArray} {n : Nat} (h : n < t.size) : cnt t n 256 = 1 := by
  rw [cnt_in h, if_pos]
  have := (t[n]'h).toNat_lt
  omega

set_option maxHeartbeats 1000000 in
theorem zzBytes8 (a : ByteArray) (i line : Int) (w : World) (ha : a.size ≤ 9223372036854775807) :
    Calls Try.prog 8 #[.string a, .int .i64 i, .int .i64 line] w fun e w' => e = .returned (.bool (decide (a.size ≤ 1048576))) ∧ w' = w := by
  by_cases h1 : a.size ≤ 1048576
  · go_enter Try.func8, Try.ntmps8
    go_wp2
    go_ret
    exact ⟨ret_bool (by simp [h1]), rfl⟩
  · go_enter Try.func8, Try.ntmps8
    go_wp2
    go_ret
    exact ⟨ret_bool (by simp [h1]), rfl⟩

theorem below_of_drawn {w w' : World} (h : ∃ n, w' = w.drewN n) : Below w.heap.size w w' := by
  obtain ⟨n, rfl⟩ := h
  exact ⟨rfl, rfl, rfl, Nat.le_refl _, fun _ _ => rfl⟩
theorem below_step {w w' w'' : World} (h : Below w.heap.size w w') (h' : Below w'.heap.size w' w'') : Below w.heap.size w w'' := h.trans (h'.mono h.size)
theorem Scan.drawn {w w' : World} {b : Nat} {t : ByteArray} {i line : Int} (h : Scan w b t i line) (hd : ∃ n, w' = w.drewN n) : Scan w' b t i line := by
  obtain ⟨n, rfl⟩ := hd
  exact h

set_option maxRecDepth 100000 in
set_option maxHeartbeats 4000000 in
theorem one_walk (t : ByteArray) (i line : Int) (w : World) (ht : t.size ≤ 9223372036854775807) :
    Calls Try.prog 4 #[.string t, .int .i64 i, .int .i64 line] w fun e w' => e = .returned (.bool true) ∧ Below w.heap.size w w' := by
  by_cases hs : t.size ≤ 1048576
  · have hd : decide (t.size ≤ 1048576) = true := by simp [hs]
    by_cases hi : i < 0
    · go_enter Try.func4, Try.ntmps4
      go_wp2_with fail
      refine (zzBytes8 t i line _ ht).mono ?_
      rintro e w1 ⟨rfl, hw1⟩
      subst hw1
      go_wp2_with fail
      go_ret
      exact ⟨rfl, Below.refl _ _⟩
    · obtain ⟨n, rfl⟩ := Int.eq_ofNat_of_zero_le (show 0 ≤ i by omega)
      go_enter Try.func4, Try.ntmps4
      go_wp2_with fail
      refine (zzBytes8 t n line _ ht).mono ?_
      rintro e w1 ⟨rfl, hw1⟩
      subst hw1
      go_wp2_with fail
      refine (newScan_any t n line _).mono ?_
      rintro e w2 ⟨rfl, hw2⟩
      have hb2 : Below w1.heap.size w1 w2 := by rw [hw2]; exact (Below.refl _ _).alloc (Nat.le_refl _) _
      have hs2 : Hid (Scan w2 w1.heap.size t n line) := by rw [hw2]; exact scan_new _ _ _ _
      clear hw2
      go_wp2_with fail
      go_loopw [8, 9] (fun u v wr => ∃ j : Nat, j ≤ 256 ∧ v = .int .i64 j ∧ u = .int .i64 (cnt t n j) ∧ Below w1.heap.size w1 wr ∧ Hid (Scan wr w1.heap.size t n line)) (fun _ v _ => 256 - (intOf v).toNat)
      case atStart => exact ⟨0, Nat.zero_le _, rfl, rfl, hb2, hs2⟩
      case round =>
        obtain ⟨j, hj, rfl, rfl, hb3, hs3⟩ := hrel
        clear hb2 hs2
        have hbd := cnt_bd t n j
        by_cases hlt : j < 256
        · go_wp2_with fail
          refine (scanAt_any _ t n line j _ hs3.out (by omega)).mono ?_
          rintro e w4 ⟨rfl, hw4⟩
          have hb4 := below_step hb3 (below_of_drawn hw4)
          have hs4 : Hid (Scan w4 w1.heap.size t n line) := hs3.out.drawn hw4
          clear hw4 hb3 hs3
          cases hq : atB t n j with
          | true =>
            have hc : Hid (cnt t n (j + 1) = cnt t n j + 1) := by show cnt t n (j + 1) = _; rw [cnt, hq]; rfl
            go_wp2_with fail
            go_roundw
            case rel => exact ⟨j + 1, by omega, by go_num, by rw [hc.out], hb4, hs4⟩
            case measure => simp [intOf]; omega
          | false =>
            have hc : Hid (cnt t n (j + 1) = cnt t n j) := by show cnt t n (j + 1) = _; rw [cnt, hq]; exact Int.add_zero _
            go_wp2_with fail
            go_roundw
            case rel => exact ⟨j + 1, by omega, by go_num, by rw [hc.out], hb4, hs4⟩
            case measure => simp [intOf]; omega
        · obtain rfl : j = 256 := by omega
          by_cases hn : n < t.size
          · have hc := cnt_all_in hn
            rw [hc]
            clear hc hbd
            go_wp2_with fail
            refine (text_any _ t n line _ hs3.out).mono ?_
            rintro e w5 ⟨rfl, hw5⟩
            subst hw5
            go_wp2_with fail
            refine (place_any _ t n line _ hs3.out).mono ?_
            rintro e w6 ⟨rfl, hw6⟩
            subst hw6
            go_wp2_with fail
            refine (line_any _ t n line _ hs3.out).mono ?_
            rintro e w7 ⟨rfl, hw7⟩
            subst hw7
            go_wp2_with fail
            go_ret
            exact ⟨rfl, hb3⟩
          · have hc := cnt_out (t := t) (i := n) (by omega) 256
            rw [hc]
            clear hc hbd
            go_wp2_with fail
            refine (text_any _ t n line _ hs3.out).mono ?_
            rintro e w5 ⟨rfl, hw5⟩
            subst hw5
            go_wp2_with fail
            refine (place_any _ t n line _ hs3.out).mono ?_
            rintro e w6 ⟨rfl, hw6⟩
            subst hw6
            go_wp2_with fail
            refine (line_any _ t n line _ hs3.out).mono ?_
            rintro e w7 ⟨rfl, hw7⟩
            subst hw7
            go_wp2_with fail
            go_ret
            exact ⟨rfl, hb3⟩
  · have hd : decide (t.size ≤ 1048576) = false := by simp; omega
    go_enter Try.func4, Try.ntmps4
    go_wp2_with fail
    refine (zzBytes8 t i line _ ht).mono ?_
    rintro e w1 ⟨rfl, hw1⟩
    subst hw1
    go_wp2_with fail
    go_ret
    exact ⟨rfl, Below.refl _ _⟩
end Go.Proofs.Qxb6615485a
