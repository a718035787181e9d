import Derived.Test.Qxb6614573aDiags
import Derived.Deep.RegionWith
namespace Go.Proofs.Qxb6614573a
open Go.RowKit

theorem zzBytes7 (ao : Option Addr) (n c : Nat) (k : Int) (w : World) (hn : n ≤ 9223372036854775807) :
    Calls Try.prog 7 #[.slice ao n c, .int .i64 k] w fun e w' => e = .returned (.bool (decide (n ≤ 1048576))) ∧ w' = w := by
  by_cases h : n ≤ 1048576
  · go_enter Try.func7, Try.ntmps7
    go_wp2
    go_ret
    exact ⟨by simp [h], rfl⟩
  · go_enter Try.func7, Try.ntmps7
    go_wp2
    go_ret
    exact ⟨by simp [h], rfl⟩

theorem below_step {w w' w'' : World} (h : Below w.heap.size w w') (h' : Below w'.heap.size w' w'') : Below w.heap.size w w'' := h.trans (h'.mono h.size)

set_option maxHeartbeats 4000000 in
theorem split_main (b off n c k : Nat) (L C S : Nat → Int) (w : World) (hn : n ≤ 43690) (hk : k ≤ n) (hc : n ≤ c) (hpos : 0 < n) (hcm : c ≤ 9223372036854775807) (hck : ¬ c = k) (h : InRow w b off n L C S) :
    Calls Try.prog 3 #[.slice (some ⟨b, off, none⟩) n c, .int .i64 k] w fun e w' => e = .returned (.bool true) ∧ Below w.heap.size w w' := by
  have hd : decide (n ≤ 1048576) = true := by simp; omega
  have HS : Hid (hasErr n S = (hasErr k S || hasErr (n - k) (fun i => S (k + i)))) := hasErr_split n k S hk
  go_enter Try.func3, Try.ntmps3
  go_wp2_with fail
  refine (zzBytes7 _ n c _ _ (by omega)).mono ?_
  rintro e w1 ⟨rfl, hw⟩
  subst hw
  go_wp2_with fail
  refine (zzDiags_any _ n c L C S _ (by omega) (.inr ⟨b, off, rfl, h⟩)).mono ?_
  rintro e w2 ⟨rfl, hb2, hrA⟩
  have h2 := h.below hb2 rfl
  go_wp2_with fail
  refine (zzDiags_any _ k c L C S _ (by omega) (.inr ⟨b, off, rfl, h2.less hk⟩)).mono ?_
  rintro e w3 ⟨rfl, hb3, hrL⟩
  have h3 := h2.below hb3 rfl
  go_wp2_with fail
  refine (zzDiags_any _ (n - k) (c - k) (fun i => L (k + i)) (fun i => C (k + i)) (fun i => S (k + i)) _ (by omega) (.inr ⟨b, off + k * 3, rfl, h3.tail3 (by omega)⟩)).mono ?_
  rintro e w4 ⟨rfl, hb4, hrR⟩
  have h4 := h3.below hb4 rfl
  have hrA4 := (hrA.below hb3).below hb4
  have hrL4 := hrL.below hb4
  go_wp2_with fail
  refine (hasError_any _ 0 n n S _ (by omega) hrA4).mono ?_
  rintro e w5 ⟨rfl, hb5⟩
  have h5 := h4.below hb5 rfl
  have hrL5 := hrL4.below hb5
  have hrR5 := hrR.below hb5
  have hrA5 := hrA4.below hb5
  go_wp2_with fail
  have hbT := below_step (below_step (below_step hb2 hb3) hb4) hb5
  clear hb2 hb3 hb4 hrA hrL hrR hrA4 hrL4 h h2 h3 h4
  rcases (by rw [HS.out]; cases hasErr k S <;> cases hasErr (n - k) (fun i => S (k + i)) <;> simp : (hasErr k S = true ∧ hasErr n S = true) ∨ (hasErr k S = false ∧ hasErr (n - k) (fun i => S (k + i)) = true ∧ hasErr n S = true) ∨
    (hasErr k S = false ∧ hasErr (n - k) (fun i => S (k + i)) = false ∧ hasErr n S = false)) with ⟨hL, hA⟩ | ⟨hL, hR, hA⟩ | ⟨hL, hR, hA⟩
  · refine (hasError_any _ 0 k k S _ (by omega) hrL5).mono ?_
    rintro e w7 ⟨rfl, hb6⟩
    have hb7 := below_step hbT hb6
    have h7 := h5.below hb6 rfl
    have hrA7 := hrA5.below hb6
    clear hrL5 hrR5 hrA5 hb6 hbT h5
    go_wp2_with fail
    refine (hasError_any _ 0 0 n S _ (by omega) (hrA7.less (by omega))).mono ?_
    rintro e w8 ⟨rfl, hb8⟩
    have hb9 := below_step hb7 hb8
    have h9 := h7.below hb8 rfl
    clear hrA7 hb8 hb7 h7
    by_cases hkn : k < n
    · have hone : InRow w8 b (off + k * 3) 1 (fun i => L (k + i)) (fun i => C (k + i)) (fun i => S (k + i)) := h9.tail3 (by omega)
      have hsv : w8.cell? ⟨b, off + k * 3 + 2, none⟩ = some (.int .i64 (S k)) := (h9 k hkn).2.2
      have hbw : b < w8.heap.size := World.block_lt_of_cell? _ _ hsv
      clear h9
      go_wp2_with fail
      refine (zzDiags_any _ 1 _ _ _ _ _ (by omega) (.inr ⟨b, off + k * 3, rfl, hone⟩)).mono ?_
      rintro e w10 ⟨rfl, hb10, hrO⟩
      have hsw : w10.cell? ⟨b, off + k * 3 + 2, none⟩ = some (.int .i64 (S k)) := (hb10.cell hbw).trans hsv
      have hbw2 : b < w10.heap.size := World.block_lt_of_cell? _ _ hsw
      have hb11 := below_step hb9 hb10
      clear hb9 hb10 hsv hone
      go_wp2_with fail
      have ix : (k : Int) < (n : Int) := by omega
      have hOne : Hid (hasErr 1 (fun i => S (k + i)) = (S k == 0)) := hasErr_one _
      have HB : Hid (Below w1.heap.size w1 w10) := hb11
      clear hb11
      obtain ⟨sb, q1⟩ : ∃ sb, (S k == 0) = sb := ⟨_, rfl⟩
      have q2 : hasErr 1 (fun i => S (k + i)) = sb := by rw [hOne.out, q1]
      clear hOne
      go_region_with ((go_at_call 9; refine (hasError_any _ 0 1 1 (fun i => S (k + i)) _ (by omega) ?_).mono ?_; exact hrO; rintro e w12 ⟨rfl, hb12⟩; have hsx : w12.cell? ⟨b, off + k * 3 + 2, none⟩ = some (.int .i64 (S k)) := (hb12.cell hbw2).trans hsw))
      all_goals (go_wp2_with fail; go_ret; exact ⟨rfl, below_step HB.out ((Below.refl _ _).drew.trans hb12)⟩)
    · go_wp2_with fail
      go_ret
      exact ⟨rfl, hb9⟩
  · refine (hasError_any _ 0 k k S _ (by omega) hrL5).mono ?_
    rintro e w6 ⟨rfl, hb6⟩
    have h6 := h5.below hb6 rfl
    have hrA6 := hrA5.below hb6
    have hrR6 := hrR5.below hb6
    have hbU := below_step hbT hb6
    clear hrL5 hrR5 hrA5 hb6 hbT h5
    go_wp2_with fail
    refine (hasError_any _ 0 (n - k) (n - k) _ _ (by omega) hrR6).mono ?_
    rintro e w7 ⟨rfl, hb6⟩
    have hb7 := below_step hbU hb6
    have h7 := h6.below hb6 rfl
    have hrA7 := hrA6.below hb6
    clear hrA6 hrR6 hbU h6 hb6
    go_wp2_with fail
    refine (hasError_any _ 0 0 n S _ (by omega) (hrA7.less (by omega))).mono ?_
    rintro e w8 ⟨rfl, hb8⟩
    have hb9 := below_step hb7 hb8
    have h9 := h7.below hb8 rfl
    clear hrA7 hb8 hb7 h7
    by_cases hkn : k < n
    · have hone : InRow w8 b (off + k * 3) 1 (fun i => L (k + i)) (fun i => C (k + i)) (fun i => S (k + i)) := h9.tail3 (by omega)
      have hsv : w8.cell? ⟨b, off + k * 3 + 2, none⟩ = some (.int .i64 (S k)) := (h9 k hkn).2.2
      have hbw : b < w8.heap.size := World.block_lt_of_cell? _ _ hsv
      clear h9
      go_wp2_with fail
      refine (zzDiags_any _ 1 _ _ _ _ _ (by omega) (.inr ⟨b, off + k * 3, rfl, hone⟩)).mono ?_
      rintro e w10 ⟨rfl, hb10, hrO⟩
      have hsw : w10.cell? ⟨b, off + k * 3 + 2, none⟩ = some (.int .i64 (S k)) := (hb10.cell hbw).trans hsv
      have hbw2 : b < w10.heap.size := World.block_lt_of_cell? _ _ hsw
      have hb11 := below_step hb9 hb10
      clear hb9 hb10 hsv hone
      go_wp2_with fail
      have ix : (k : Int) < (n : Int) := by omega
      have hOne : Hid (hasErr 1 (fun i => S (k + i)) = (S k == 0)) := hasErr_one _
      have HB : Hid (Below w1.heap.size w1 w10) := hb11
      clear hb11
      obtain ⟨sb, q1⟩ : ∃ sb, (S k == 0) = sb := ⟨_, rfl⟩
      have q2 : hasErr 1 (fun i => S (k + i)) = sb := by rw [hOne.out, q1]
      clear hOne
      go_region_with ((go_at_call 9; refine (hasError_any _ 0 1 1 (fun i => S (k + i)) _ (by omega) ?_).mono ?_; exact hrO; rintro e w12 ⟨rfl, hb12⟩; have hsx : w12.cell? ⟨b, off + k * 3 + 2, none⟩ = some (.int .i64 (S k)) := (hb12.cell hbw2).trans hsw))
      all_goals (go_wp2_with fail; go_ret; exact ⟨rfl, below_step HB.out ((Below.refl _ _).drew.trans hb12)⟩)
    · go_wp2_with fail
      go_ret
      exact ⟨rfl, hb9⟩
  · refine (hasError_any _ 0 k k S _ (by omega) hrL5).mono ?_
    rintro e w6 ⟨rfl, hb6⟩
    have h6 := h5.below hb6 rfl
    have hrA6 := hrA5.below hb6
    have hrR6 := hrR5.below hb6
    have hbU := below_step hbT hb6
    clear hrL5 hrR5 hrA5 hb6 hbT h5
    go_wp2_with fail
    refine (hasError_any _ 0 (n - k) (n - k) _ _ (by omega) hrR6).mono ?_
    rintro e w7 ⟨rfl, hb6⟩
    have hb7 := below_step hbU hb6
    have h7 := h6.below hb6 rfl
    have hrA7 := hrA6.below hb6
    clear hrA6 hrR6 hbU h6 hb6
    go_wp2_with fail
    refine (hasError_any _ 0 0 n S _ (by omega) (hrA7.less (by omega))).mono ?_
    rintro e w8 ⟨rfl, hb8⟩
    have hb9 := below_step hb7 hb8
    have h9 := h7.below hb8 rfl
    clear hrA7 hb8 hb7 h7
    by_cases hkn : k < n
    · have hone : InRow w8 b (off + k * 3) 1 (fun i => L (k + i)) (fun i => C (k + i)) (fun i => S (k + i)) := h9.tail3 (by omega)
      have hsv : w8.cell? ⟨b, off + k * 3 + 2, none⟩ = some (.int .i64 (S k)) := (h9 k hkn).2.2
      have hbw : b < w8.heap.size := World.block_lt_of_cell? _ _ hsv
      clear h9
      go_wp2_with fail
      refine (zzDiags_any _ 1 _ _ _ _ _ (by omega) (.inr ⟨b, off + k * 3, rfl, hone⟩)).mono ?_
      rintro e w10 ⟨rfl, hb10, hrO⟩
      have hsw : w10.cell? ⟨b, off + k * 3 + 2, none⟩ = some (.int .i64 (S k)) := (hb10.cell hbw).trans hsv
      have hbw2 : b < w10.heap.size := World.block_lt_of_cell? _ _ hsw
      have hb11 := below_step hb9 hb10
      clear hb9 hb10 hsv hone
      go_wp2_with fail
      have ix : (k : Int) < (n : Int) := by omega
      have hOne : Hid (hasErr 1 (fun i => S (k + i)) = (S k == 0)) := hasErr_one _
      have HB : Hid (Below w1.heap.size w1 w10) := hb11
      clear hb11
      obtain ⟨sb, q1⟩ : ∃ sb, (S k == 0) = sb := ⟨_, rfl⟩
      have q2 : hasErr 1 (fun i => S (k + i)) = sb := by rw [hOne.out, q1]
      clear hOne
      go_region_with ((go_at_call 9; refine (hasError_any _ 0 1 1 (fun i => S (k + i)) _ (by omega) ?_).mono ?_; exact hrO; rintro e w12 ⟨rfl, hb12⟩; have hsx : w12.cell? ⟨b, off + k * 3 + 2, none⟩ = some (.int .i64 (S k)) := (hb12.cell hbw2).trans hsw))
      all_goals (go_wp2_with fail; go_ret; exact ⟨rfl, below_step HB.out ((Below.refl _ _).drew.trans hb12)⟩)
    · go_wp2_with fail
      go_ret
      exact ⟨rfl, hb9⟩

set_option maxHeartbeats 1000000 in
/-- the cut at the end of a full slice -/
theorem split_full (b off n : Nat) (L C S : Nat → Int) (w : World) (hn : n ≤ 43690) (h : InRow w b off n L C S) :
    Calls Try.prog 3 #[.slice (some ⟨b, off, none⟩) n n, .int .i64 n] w fun e w' => e = .returned (.bool true) ∧ Below w.heap.size w w' := by
  have hd : decide (n ≤ 1048576) = true := by simp; omega
  have hz0 : ∀ T, hasErr 0 T = false := fun _ => rfl
  go_enter Try.func3, Try.ntmps3
  go_wp2_with fail
  refine (zzBytes7 _ n n _ _ (by omega)).mono ?_
  rintro e w1 ⟨rfl, hw⟩
  subst hw
  go_wp2_with fail
  refine (zzDiags_any _ n n L C S _ (by omega) (.inr ⟨b, off, rfl, h⟩)).mono ?_
  rintro e w2 ⟨rfl, hb2, hrA⟩
  have h2 := h.below hb2 rfl
  go_wp2_with fail
  refine (zzDiags_any _ n n L C S _ (by omega) (.inr ⟨b, off, rfl, h2⟩)).mono ?_
  rintro e w3 ⟨rfl, hb3, hrL⟩
  go_wp2_with fail
  refine (zzDiags_zero _ _ _).mono ?_
  rintro e w4 ⟨rfl, hb4⟩
  have hrA4 := (hrA.below hb3).below hb4
  have hrL4 := hrL.below hb4
  go_wp2_with fail
  refine (hasError_any _ 0 n n S _ (by omega) hrA4).mono ?_
  rintro e w5 ⟨rfl, hb5⟩
  have hrL5 := hrL4.below hb5
  have hrA5 := hrA4.below hb5
  have hbT := below_step (below_step (below_step hb2 hb3) hb4) hb5
  clear hb2 hb3 hb4 hrA hrL hrA4 hrL4 h h2
  go_wp2_with fail
  cases hA : hasErr n S
  · refine (hasError_any _ 0 n n S _ (by omega) hrL5).mono ?_
    rintro e w6 ⟨rfl, hb6⟩
    have hb7 := below_step hbT hb6
    have hrA6 := hrA5.below hb6
    go_wp2_with fail
    refine (hasError_any _ 0 0 0 S _ (by omega) (fun i hi => absurd hi (Nat.not_lt_zero _))).mono ?_
    rintro e w7 ⟨rfl, hb8⟩
    have hb9 := below_step hb7 hb8
    go_wp2_with fail
    refine (hasError_any _ 0 0 n S _ (by omega) (fun i hi => absurd hi (Nat.not_lt_zero _))).mono ?_
    rintro e w8 ⟨rfl, hb10⟩
    go_wp2_with fail
    go_ret
    exact ⟨rfl, below_step hb9 hb10⟩
  · refine (hasError_any _ 0 n n S _ (by omega) hrL5).mono ?_
    rintro e w6 ⟨rfl, hb6⟩
    have hb7 := below_step hbT hb6
    go_wp2_with fail
    refine (hasError_any _ 0 0 n S _ (by omega) (fun i hi => absurd hi (Nat.not_lt_zero _))).mono ?_
    rintro e w8 ⟨rfl, hb10⟩
    go_wp2_with fail
    go_ret
    exact ⟨rfl, below_step hb7 hb10⟩

set_option maxHeartbeats 1000000 in
/-- no diagnostics -/
theorem split_nil  (w : World) :
    Calls Try.prog 3 #[Value.slice none 0 0, .int .i64 0] w fun e w' => e = .returned (.bool true) ∧ Below w.heap.size w w' := by
  have hd : decide (0 ≤ 1048576) = true := by simp
  have hz0 : ∀ T, hasErr 0 T = false := fun _ => rfl
  go_enter Try.func3, Try.ntmps3
  go_wp2_with fail
  refine (zzBytes7 _ 0 _ _ _ (by omega)).mono ?_
  rintro e w1 ⟨rfl, hw⟩
  subst hw
  go_wp2_with fail
  refine (zzDiags_zero _ _ _).mono ?_
  rintro e w2 ⟨rfl, hb2⟩
  go_wp2_with fail
  refine (zzDiags_zero _ _ _).mono ?_
  rintro e w3 ⟨rfl, hb3⟩
  go_wp2_with fail
  all_goals
    refine (zzDiags_zero _ _ _).mono ?_
    rintro e w4 ⟨rfl, hb4⟩
    go_wp2_with fail
    refine (hasError_any _ 0 0 0 (fun _ => 0) _ (by omega) (fun i hi => absurd hi (Nat.not_lt_zero _))).mono ?_
    rintro e w5 ⟨rfl, hb5⟩
    go_wp2_with fail
    refine (hasError_any _ 0 0 0 (fun _ => 0) _ (by omega) (fun i hi => absurd hi (Nat.not_lt_zero _))).mono ?_
    rintro e w6 ⟨rfl, hb6⟩
    go_wp2_with fail
    refine (hasError_any _ 0 0 0 (fun _ => 0) _ (by omega) (fun i hi => absurd hi (Nat.not_lt_zero _))).mono ?_
    rintro e w7 ⟨rfl, hb7⟩
    go_wp2_with fail
    refine (hasError_any _ 0 0 0 (fun _ => 0) _ (by omega) (fun i hi => absurd hi (Nat.not_lt_zero _))).mono ?_
    rintro e w8 ⟨rfl, hb8⟩
    go_wp2_with fail
    go_ret
    exact ⟨rfl, below_step (below_step (below_step (below_step (below_step (below_step hb2 hb3) hb4) hb5) hb6) hb7) hb8⟩

set_option maxHeartbeats 1000000 in
/-- no diagnostics -/
theorem split_empty (x : Addr) (c : Nat) (w : World) :
    Calls Try.prog 3 #[Value.slice (some x) 0 c, .int .i64 0] w fun e w' => e = .returned (.bool true) ∧ Below w.heap.size w w' := by
  have hd : decide (0 ≤ 1048576) = true := by simp
  have hz0 : ∀ T, hasErr 0 T = false := fun _ => rfl
  go_enter Try.func3, Try.ntmps3
  go_wp2_with fail
  refine (zzBytes7 _ 0 _ _ _ (by omega)).mono ?_
  rintro e w1 ⟨rfl, hw⟩
  subst hw
  go_wp2_with fail
  refine (zzDiags_zero _ _ _).mono ?_
  rintro e w2 ⟨rfl, hb2⟩
  go_wp2_with fail
  refine (zzDiags_zero _ _ _).mono ?_
  rintro e w3 ⟨rfl, hb3⟩
  go_wp2_with fail
  all_goals
    refine (zzDiags_zero _ _ _).mono ?_
    rintro e w4 ⟨rfl, hb4⟩
    go_wp2_with fail
    refine (hasError_any _ 0 0 0 (fun _ => 0) _ (by omega) (fun i hi => absurd hi (Nat.not_lt_zero _))).mono ?_
    rintro e w5 ⟨rfl, hb5⟩
    go_wp2_with fail
    refine (hasError_any _ 0 0 0 (fun _ => 0) _ (by omega) (fun i hi => absurd hi (Nat.not_lt_zero _))).mono ?_
    rintro e w6 ⟨rfl, hb6⟩
    go_wp2_with fail
    refine (hasError_any _ 0 0 0 (fun _ => 0) _ (by omega) (fun i hi => absurd hi (Nat.not_lt_zero _))).mono ?_
    rintro e w7 ⟨rfl, hb7⟩
    go_wp2_with fail
    refine (hasError_any _ 0 0 0 (fun _ => 0) _ (by omega) (fun i hi => absurd hi (Nat.not_lt_zero _))).mono ?_
    rintro e w8 ⟨rfl, hb8⟩
    go_wp2_with fail
    go_ret
    exact ⟨rfl, below_step (below_step (below_step (below_step (below_step (below_step hb2 hb3) hb4) hb5) hb6) hb7) hb8⟩

set_option maxHeartbeats 1000000 in
theorem split_early (ao : Option Addr) (n c : Nat) (k : Int) (w : World) (hn : n ≤ 9223372036854775807) (h : 43690 < n ∨ k < 0 ∨ (n : Int) < k) :
    Calls Try.prog 3 #[.slice ao n c, .int .i64 k] w fun e w' => e = .returned (.bool true) ∧ Below w.heap.size w w' := by
  by_cases h1 : n ≤ 1048576
  · have hd : decide (n ≤ 1048576) = true := by simp; omega
    by_cases h2 : 43690 < n
    · go_enter Try.func3, Try.ntmps3
      go_wp2_with fail
      refine (zzBytes7 _ n c _ _ (by omega)).mono ?_
      rintro e w1 ⟨rfl, hw⟩
      subst hw
      go_wp2_with fail
      go_ret
      exact ⟨rfl, Below.refl _ _⟩
    · by_cases h3 : k < 0
      · have h4 : decide (k < 0) = true := by simp; omega
        go_enter Try.func3, Try.ntmps3
        go_wp2_with fail
        refine (zzBytes7 _ n c _ _ (by omega)).mono ?_
        rintro e w1 ⟨rfl, hw⟩
        subst hw
        go_wp2_with fail
        go_ret
        exact ⟨rfl, Below.refl _ _⟩
      · have h4 : decide (k < 0) = false := by simp; omega
        have h5 : (n : Int) < k := by omega
        clear h
        go_enter Try.func3, Try.ntmps3
        go_wp2_with fail
        refine (zzBytes7 _ n c _ _ (by omega)).mono ?_
        rintro e w1 ⟨rfl, hw⟩
        subst hw
        go_wp2_with fail
        go_ret
        exact ⟨rfl, Below.refl _ _⟩
  · have hd : decide (n ≤ 1048576) = false := by simp; omega
    go_enter Try.func3, Try.ntmps3
    go_wp2_with fail
    refine (zzBytes7 _ n c _ _ (by omega)).mono ?_
    rintro e w1 ⟨rfl, hw⟩
    subst hw
    go_wp2_with fail
    go_ret
    exact ⟨rfl, Below.refl _ _⟩
end Go.Proofs.Qxb6614573a
