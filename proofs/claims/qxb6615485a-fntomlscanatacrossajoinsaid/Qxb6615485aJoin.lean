import Derived.Test.Qxb6615485aAt
namespace Go.Proofs.Qxb6615485a
open Go.RowKit

theorem atB_left {a b : ByteArray} {n : Nat} (h : n < a.size) (c : Int) : atB (a ++ b) n c = atB a n c := by
  rw [atB_in h, atB_in (by rw [ByteArray.size_append]; omega)]
  rw [ByteArray.getElem_append_left h]
theorem atB_right {a b : ByteArray} {n : Nat} (h : a.size ≤ n) (c : Int) : atB (a ++ b) n c = atB b ((n : Int) - (a.size : Int)) c := by
  rw [show (n : Int) - (a.size : Int) = ((n - a.size : Nat) : Int) by omega]
  by_cases hb : n - a.size < b.size
  · rw [atB_in hb, atB_in (by rw [ByteArray.size_append]; omega)]
    rw [ByteArray.getElem_append_right h]
  · rw [atB_out (by rw [ByteArray.size_append]; omega), atB_out (by omega)]

set_option maxHeartbeats 1000000 in
theorem zzBytes5 (a b : ByteArray) (i line c : Int) (w : World) (ha : a.size ≤ 9223372036854775807) (hb : b.size ≤ 9223372036854775807) :
    Calls Try.prog 5 #[.string a, .string b, .int .i64 i, .int .i64 line, .int .u8 c] w fun e w' => e = .returned (.bool (decide (a.size + b.size ≤ 1048576))) ∧ w' = w := by
  by_cases h1 : a.size ≤ 1048576
  · by_cases h2 : b.size ≤ 1048576
    · by_cases h3 : a.size + b.size ≤ 1048576
      · go_enter Try.func5, Try.ntmps5
        go_wp2
        go_ret
        exact ⟨ret_bool (by simp [h3]), rfl⟩
      · go_enter Try.func5, Try.ntmps5
        go_wp2
        go_ret
        exact ⟨ret_bool (by simp [h3]), rfl⟩
    · go_enter Try.func5, Try.ntmps5
      go_wp2
      go_ret
      exact ⟨ret_bool (by rw [eq_comm, decide_eq_false_iff_not]; omega), rfl⟩
  · go_enter Try.func5, Try.ntmps5
    go_wp2
    go_ret
    exact ⟨ret_bool (by rw [eq_comm, decide_eq_false_iff_not]; omega), rfl⟩

theorem below_drewN {B : Nat} (w : World) (k : Nat) : Below B w (w.drewN k) := ⟨rfl, rfl, rfl, Nat.le_refl _, fun _ _ => rfl⟩
theorem below_of_drawn {w w' : World} (h : ∃ n, w' = w.drewN n) : Below w.heap.size w w' := by
  obtain ⟨n, rfl⟩ := h
  exact below_drewN w n
theorem below_step {w w' w'' : World} (h : Below w.heap.size w w') (h' : Below w'.heap.size w' w'') : Below w.heap.size w w'' := h.trans (h'.mono h.size)

/-- at the join: b's first byte, or nothing -/
theorem atB_join {a b : ByteArray} (h : 0 < b.size) : atB (a ++ b) a.size (b[0]'h).toNat = true := by
  rw [atB_right (Nat.le_refl _), Int.sub_self]
  have := atB_in h ((b[0]'h).toNat : Int)
  rw [show ((0 : Nat) : Int) = 0 from rfl] at this
  rw [this]
  simp
theorem atB_join_none {a b : ByteArray} (h : b.size = 0) (c : Int) : atB (a ++ b) a.size c = false := atB_out (by rw [ByteArray.size_append]; omega) c

theorem new_below (w : World) (o : Obj) : Below w.heap.size w (w.alloc o) := (Below.refl _ _).alloc (Nat.le_refl _) _

set_option maxHeartbeats 4000000 in
theorem join_walk (a b : ByteArray) (i line c : Int) (w : World) (ha : a.size ≤ 9223372036854775807) (hb : b.size ≤ 9223372036854775807) (hi63 : i ≤ 9223372036854775807) :
    Calls Try.prog 3 #[.string a, .string b, .int .i64 i, .int .i64 line, .int .u8 c] w fun e w' => e = .returned (.bool true) ∧ Below w.heap.size w w' := by
  by_cases hs : a.size + b.size ≤ 1048576
  · have hd : decide (a.size + b.size ≤ 1048576) = true := by simp [hs]
    by_cases hi : i < 0
    · go_enter Try.func3, Try.ntmps3
      go_wp2_with fail
      refine (zzBytes5 a b i line c _ ha hb).mono ?_
      rintro e w1 ⟨rfl, hw1⟩
      subst hw1
      go_wp2_with fail
      go_ret
      exact ⟨rfl, Below.refl _ _⟩
    · obtain ⟨n, rfl⟩ := Int.eq_ofNat_of_zero_le (show 0 ≤ i by omega)
      go_enter Try.func3, Try.ntmps3
      go_wp2_with fail
      refine (zzBytes5 a b n line c _ ha hb).mono ?_
      rintro e w1 ⟨rfl, hw1⟩
      subst hw1
      go_wp2_with fail
      refine (newScan_any (a ++ b) n line _).mono ?_
      rintro e w2 ⟨rfl, hw2⟩
      have hb2 : Below w1.heap.size w1 w2 := by rw [hw2]; exact new_below _ _
      have hs2 : Scan w2 w1.heap.size (a ++ b) n line := by rw [hw2]; exact scan_new _ _ _ _
      clear hw2
      go_wp2_with fail
      refine (scanAt_any _ (a ++ b) n line c _ hs2 (by omega)).mono ?_
      rintro e w3 ⟨rfl, hw3⟩
      have hbb3 := below_step hb2 (below_of_drawn hw3)
      clear hw3 hb2 hs2
      by_cases hn : n < a.size
      · have hn1 : (n : Int) < (a.size : Int) := by omega
        have heq := atB_left hn c (b := b)
        rw [heq]
        clear heq
        go_wp2_with fail
        refine (newScan_any a n line _).mono ?_
        rintro e w4 ⟨rfl, hw4⟩
        have hb4 : Below w3.heap.size w3 w4 := by rw [hw4]; exact new_below _ _
        have hs4 : Scan w4 w3.heap.size a n line := by rw [hw4]; exact scan_new _ _ _ _
        have hbb4 := below_step hbb3 hb4
        clear hw4 hb4 hbb3
        go_wp2_with fail
        refine (scanAt_any _ a n line c _ hs4 (by omega)).mono ?_
        rintro e w5 ⟨rfl, hw5⟩
        have hbb5 := below_step hbb4 (below_of_drawn hw5)
        clear hw5 hs4 hbb4
        generalize atB a n c = v
        by_cases hb0 : 0 < b.size
        · have hb1 : (0 : Int) < (b.size : Int) := by omega
          have hfin := atB_join (a := a) hb0
          go_wp2_with fail
          refine (newScan_any (a ++ b) a.size line _).mono ?_
          rintro e w6 ⟨rfl, hw6⟩
          have hb6 : Below w5.heap.size w5 w6 := by rw [hw6]; exact new_below _ _
          have hs6 : Scan w6 w5.heap.size (a ++ b) a.size line := by rw [hw6]; exact scan_new _ _ _ _
          have hbb6 := below_step hbb5 hb6
          clear hw6 hb6 hbb5
          go_wp2_with fail
          refine (scanAt_any _ (a ++ b) a.size line _ _ hs6 (by omega)).mono ?_
          rintro e w7 ⟨rfl, hw7⟩
          have hbb7 := below_step hbb6 (below_of_drawn hw7)
          clear hw7 hs6 hbb6
          go_wp2_with fail
          go_ret
          exact ⟨rfl, hbb7⟩
        · have hb1 : ¬ (0 : Int) < (b.size : Int) := by omega
          have hz : b.size = 0 := by omega
          have hfin := atB_join_none (a := a) hz c
          clear hz
          have hd0 : decide ((0 : Int) < (b.size : Int)) = false := decide_eq_false hb1
          go_wp2_with fail
          refine (newScan_any (a ++ b) a.size line _).mono ?_
          rintro e w6 ⟨rfl, hw6⟩
          have hb6 : Below w5.heap.size w5 w6 := by rw [hw6]; exact new_below _ _
          have hs6 : Scan w6 w5.heap.size (a ++ b) a.size line := by rw [hw6]; exact scan_new _ _ _ _
          have hbb6 := below_step hbb5 hb6
          clear hw6 hb6 hbb5
          go_wp2_with fail
          refine (scanAt_any _ (a ++ b) a.size line c _ hs6 (by omega)).mono ?_
          rintro e w7 ⟨rfl, hw7⟩
          have hbb7 := below_step hbb6 (below_of_drawn hw7)
          clear hw7 hs6 hbb6
          go_wp2_with fail
          go_ret
          exact ⟨rfl, hbb7⟩

      · have hn1 : ¬ (n : Int) < (a.size : Int) := by omega
        have heq := atB_right (a := a) (b := b) (n := n) (by omega) c
        rw [heq]
        clear heq
        go_wp2_with fail
        refine (newScan_any b _ line _).mono ?_
        rintro e w4 ⟨rfl, hw4⟩
        have hb4 : Below w3.heap.size w3 w4 := by rw [hw4]; exact new_below _ _
        have hs4 : Scan w4 w3.heap.size b ((n : Int) - (a.size : Int)) line := by rw [hw4]; exact scan_new _ _ _ _
        have hbb4 := below_step hbb3 hb4
        clear hw4 hb4 hbb3
        go_wp2_with fail
        refine (scanAt_any _ b _ line c _ hs4 (by omega)).mono ?_
        rintro e w5 ⟨rfl, hw5⟩
        have hbb5 := below_step hbb4 (below_of_drawn hw5)
        clear hw5 hs4 hbb4
        generalize atB b ((n : Int) - (a.size : Int)) c = v
        by_cases hb0 : 0 < b.size
        · have hb1 : (0 : Int) < (b.size : Int) := by omega
          have hfin := atB_join (a := a) hb0
          go_wp2_with fail
          refine (newScan_any (a ++ b) a.size line _).mono ?_
          rintro e w6 ⟨rfl, hw6⟩
          have hb6 : Below w5.heap.size w5 w6 := by rw [hw6]; exact new_below _ _
          have hs6 : Scan w6 w5.heap.size (a ++ b) a.size line := by rw [hw6]; exact scan_new _ _ _ _
          have hbb6 := below_step hbb5 hb6
          clear hw6 hb6 hbb5
          go_wp2_with fail
          refine (scanAt_any _ (a ++ b) a.size line _ _ hs6 (by omega)).mono ?_
          rintro e w7 ⟨rfl, hw7⟩
          have hbb7 := below_step hbb6 (below_of_drawn hw7)
          clear hw7 hs6 hbb6
          go_wp2_with fail
          go_ret
          exact ⟨rfl, hbb7⟩
        · have hb1 : ¬ (0 : Int) < (b.size : Int) := by omega
          have hz : b.size = 0 := by omega
          have hfin := atB_join_none (a := a) hz c
          clear hz
          have hd0 : decide ((0 : Int) < (b.size : Int)) = false := decide_eq_false hb1
          go_wp2_with fail
          refine (newScan_any (a ++ b) a.size line _).mono ?_
          rintro e w6 ⟨rfl, hw6⟩
          have hb6 : Below w5.heap.size w5 w6 := by rw [hw6]; exact new_below _ _
          have hs6 : Scan w6 w5.heap.size (a ++ b) a.size line := by rw [hw6]; exact scan_new _ _ _ _
          have hbb6 := below_step hbb5 hb6
          clear hw6 hb6 hbb5
          go_wp2_with fail
          refine (scanAt_any _ (a ++ b) a.size line c _ hs6 (by omega)).mono ?_
          rintro e w7 ⟨rfl, hw7⟩
          have hbb7 := below_step hbb6 (below_of_drawn hw7)
          clear hw7 hs6 hbb6
          go_wp2_with fail
          go_ret
          exact ⟨rfl, hbb7⟩
  · have hd : decide (a.size + b.size ≤ 1048576) = false := by simp; omega
    go_enter Try.func3, Try.ntmps3
    go_wp2_with fail
    refine (zzBytes5 a b i line c _ ha hb).mono ?_
    rintro e w1 ⟨rfl, hw1⟩
    subst hw1
    go_wp2_with fail
    go_ret
    exact ⟨rfl, Below.refl _ _⟩
end Go.Proofs.Qxb6615485a
