import Derived.Test.Qxb6614573aDiags
namespace Go.Proofs.Qxb6614573a
open Go.RowKit

theorem Try.info28 : (Try.prog.info? 28).map (fun i => (i.zero, i.size, i.bytes)) = some (some (.agg #[.int .i64 0, .int .i64 0, .int .i64 0]), 3, 24) := by kernel_rfl

/-- one element's three cells -/
def three (l c s : Int) : List Value := [.int .i64 l, .int .i64 c, .int .i64 s]
/-- the first m elements' cells -/
def flat (L C S : Nat → Int) : Nat → List Value
  | 0 => []
  | m + 1 => flat L C S m ++ three (L m) (C m) (S m)

theorem flat_length (L C S : Nat → Int) (m : Nat) : (flat L C S m).length = m * 3 := by
  induction m with
  | zero => rfl
  | succ m ih => simp [flat, three, ih]; omega

theorem flat_at (L C S : Nat → Int) (m i : Nat) (hi : i < m) : (flat L C S m)[i * 3]? = some (.int .i64 (L i)) ∧ (flat L C S m)[i * 3 + 1]? = some (.int .i64 (C i)) ∧ (flat L C S m)[i * 3 + 2]? = some (.int .i64 (S i)) := by
  induction m with
  | zero => omega
  | succ m ih =>
    have hl := flat_length L C S m
    by_cases e : i < m
    · obtain ⟨a, b, c⟩ := ih e
      simp only [flat]
      rw [List.getElem?_append_left (by omega), List.getElem?_append_left (by omega), List.getElem?_append_left (by omega)]
      exact ⟨a, b, c⟩
    · obtain rfl : i = m := by omega
      simp only [flat]
      rw [List.getElem?_append_right (by omega), List.getElem?_append_right (by omega), List.getElem?_append_right (by omega), hl]
      refine ⟨?_, ?_, ?_⟩
      · rw [show i * 3 - i * 3 = 0 by omega]; rfl
      · rw [show i * 3 + 1 - i * 3 = 1 by omega]; rfl
      · rw [show i * 3 + 2 - i * 3 = 2 by omega]; rfl

theorem inRow_of_owned {w : World} {base g n cap : Nat} {L C S : Nat → Int} (h : w.ownsRow base 28 3 (.slice (some ⟨g, 0, none⟩) n cap) n (flat L C S n)) : InRow w g 0 n L C S := by
  intro i hi
  obtain ⟨a, b, c⟩ := flat_at L C S n i hi
  rw [← h.cellAt _ (by omega)] at a b c
  simp only [Nat.zero_add]
  exact ⟨a, b, c⟩

/-- the list with one put in at place at -/
def put (at' : Nat) (x : Int) (X : Nat → Int) (i : Nat) : Int := if i < at' then X i else if i = at' then x else X (i - 1)
theorem put_lt {p i : Nat} {x : Int} {X : Nat → Int} (h : i < p) : put p x X i = X i := by simp [put, h]
theorem put_at {p : Nat} {x : Int} {X : Nat → Int} : put p x X p = x := by simp [put]
theorem put_gt {p i : Nat} {x : Int} {X : Nat → Int} (h : p ≤ i) : put p x X (i + 1) = X i := by
  unfold put
  rw [if_neg (by omega), if_neg (by omega)]
  rfl

theorem hasErr_put (n p : Nat) (x : Int) (S : Nat → Int) (hp : p ≤ n) : hasErr (n + 1) (put p x S) = (hasErr n S || x == 0) := by
  rw [hasErr_split (n + 1) p _ (by omega), hasErr_split n p S hp, show n + 1 - p = (n - p) + 1 by omega, hasErr_split (n - p + 1) 1 _ (by omega), show n - p + 1 - 1 = n - p by omega]
  have e1 : hasErr p (put p x S) = hasErr p S := by
    unfold hasErr
    rw [Bool.eq_iff_iff, List.any_eq_true, List.any_eq_true]
    constructor
    · rintro ⟨i, hi, h⟩
      exact ⟨i, hi, by rwa [put_lt (List.mem_range.1 hi)] at h⟩
    · rintro ⟨i, hi, h⟩
      exact ⟨i, hi, by rwa [put_lt (List.mem_range.1 hi)]⟩
  have e2 : hasErr 1 (fun i => put p x S (p + i)) = (x == 0) := by rw [hasErr_one]; simp [put_at]
  have e3 : (fun i => put p x S (p + (1 + i))) = fun i => S (p + i) := by
    funext i
    rw [show p + (1 + i) = (p + i) + 1 by omega, put_gt (by omega)]
  rw [e1, e2, e3]
  cases hasErr p S <;> cases hasErr (n - p) (fun i => S (p + i)) <;> simp

theorem three_cells (w : World) (l c s : Int) : ∀ j u, (three l c s)[j]? = some u → (w.alloc (.cells #[.int .i64 l, .int .i64 c, .int .i64 s] 28)).cell? ((⟨w.heap.size, 0, none⟩ : Addr).add j) = some u := by
  intro j u hu
  have hj : j < 3 := by
    have := (List.getElem?_eq_some_iff.1 hu).1
    simpa [three] using this
  rw [Addr.add_lit, Nat.zero_add, cell_of_row _ _ _ _ _ _ (heap_alloc_new w _)]
  rcases (by omega : j = 0 ∨ j = 1 ∨ j = 2) with rfl | rfl | rfl <;> simpa [three] using hu
theorem three_one (l c s : Int) : ∀ u ∈ three l c s, u.oneCell' = true := by
  intro u hu
  simp [three] at hu
  rcases hu with rfl | rfl | rfl <;> rfl

theorem below_append {B : Nat} {w wr w' : World} {o : Obj} (h : Below B w wr) (hg : (wr.alloc o).grownBy w' (some B)) (hB : B ≤ wr.heap.size) : Below B w w' :=
  (h.alloc hB o).grown hg (by simp; omega) (fun k hk => by cases hk; exact Nat.le_refl _)

theorem below_step {w w' w'' : World} (h : Below w.heap.size w w') (h' : Below w'.heap.size w' w'') : Below w.heap.size w w'' := h.trans (h'.mono h.size)

theorem zzBytes10 (ao : Option Addr) (n c : Nat) (k1 k2 k3 k4 : Int) (w : World) (hn : n ≤ 9223372036854775807) :
    Calls Try.prog 10 #[.slice ao n c, .int .i64 k1, .int .i64 k2, .int .i64 k3, .int .i64 k4] w fun e w' => e = .returned (.bool (decide (n ≤ 1048576))) ∧ w' = w := by
  by_cases h : n ≤ 1048576
  · go_enter Try.func10, Try.ntmps10
    go_wp2
    go_ret
    exact ⟨by simp [h], rfl⟩
  · go_enter Try.func10, Try.ntmps10
    go_wp2
    go_ret
    exact ⟨by simp [h], rfl⟩

set_option maxHeartbeats 1000000 in
theorem insert_main (b off n c p : Nat) (line col sev : Int) (L C S : Nat → Int) (w : World) (hn : n ≤ 43689) (hp : p ≤ n) (h : InRow w b off n L C S) :
    Calls Try.prog 4 #[.slice (some ⟨b, off, none⟩) n c, .int .i64 p, .int .i64 line, .int .i64 col, .int .i64 sev] w fun e w' => e = .returned (.bool true) ∧ Below w.heap.size w w' := by
  have hd : decide (n ≤ 1048576) = true := by simp; omega
  have hd1 : decide ((43689 : Int) < (n : Int)) = false := by simp; omega
  have hd2 : decide ((p : Int) < 0) = false := by simp
  obtain ⟨i0, hi, hz0, hz1, hz2⟩ := info_parts Try.info28
  go_enter Try.func4, Try.ntmps4
  go_wp2_with fail
  refine (zzBytes10 _ n c _ _ _ _ _ (by omega)).mono ?_
  rintro e w1 ⟨rfl, hw⟩
  subst hw
  go_wp2_with (at_make; refine wpList_make_own _ rfl _ _ 22 rfl w1.heap.size 28 i0 _ 3 Try.underlying22 hi hz0 hz1 .i64 .i64 _ (n + 1) rfl rfl (by omega) (by rw [hz2]; omega) (by unfold maxLen; omega) (Nat.le_refl _) ?_)
  intro w2 hown hgrow
  have hb2 : Below w1.heap.size w1 w2 := (Below.refl _ _).grown hgrow (Nat.le_refl _) (fun k hk => by cases hk)
  clear hgrow
  go_wp2_with fail
  go_loopw [11, 12] (fun v i wr => ∃ k : Nat, k ≤ p ∧ i = .int .i64 k ∧ v = .slice (some ⟨w1.heap.size, 0, none⟩) k (n + 1) ∧ Below w1.heap.size w1 wr ∧
      wr.ownsRow w1.heap.size 28 3 (.slice (some ⟨w1.heap.size, 0, none⟩) k (n + 1)) k (flat (put p line L) (put p col C) (put p sev S) k)) (fun _ i _ => p - (intOf i).toNat)
  case atStart => exact ⟨0, Nat.zero_le _, rfl, rfl, hb2, hown⟩
  case round =>
    obtain ⟨k, hk, rfl, rfl, hb, hown'⟩ := hrel
    by_cases hlt : k < p
    · obtain ⟨c0, c1, c2⟩ := h k (by omega)
      have hbw : b < w1.heap.size := World.block_lt_of_cell? _ _ c0
      have e0 := (hb.cell hbw).trans c0
      have e1 := (hb.cell hbw).trans c1
      have e2 := (hb.cell hbw).trans c2
      have i1 : (k : Int) < (n : Int) := by omega
      clear c0 c1 c2
      have HB : Hid (Below w1.heap.size w1 wr) := hb
      have HZ : Hid (w1.heap.size ≤ wr.heap.size) := hb.size
      clear hb
      go_wp2_with (at_builtin; refine wpList_append_fits _ rfl (.tmp 43) (.tmp 48) 22 rfl w1.heap.size 28 i0 3 Try.underlying22 hi hz1 w1.heap.size k (n + 1) _ rfl (hown'.alloc _) ⟨wr.heap.size, 0, none⟩ 1 1 (three (L k) (C k) (S k)) rfl rfl (three_cells wr _ _ _) (three_one _ _ _) (by omega) ?_)
      intro w' hown1 hgrow
      have hb' := below_append HB.out hgrow HZ.out
      have hfl : flat (put p line L) (put p col C) (put p sev S) (k + 1) = flat (put p line L) (put p col C) (put p sev S) k ++ three (L k) (C k) (S k) := by
        simp only [flat, put_lt hlt]
      rw [← hfl] at hown1
      have HF := hfl
      clear hfl hown' hgrow HB HZ e0 e1 e2 HF
      go_wp2
      go_roundw
      case rel => exact ⟨k + 1, by omega, by go_num, rfl, hb', hown1⟩
      case measure => simp [intOf]; omega
    · obtain rfl : k = p := by omega
      have HB : Hid (Below w1.heap.size w1 wr) := hb
      have HZ : Hid (w1.heap.size ≤ wr.heap.size) := hb.size
      clear hb hb2 hown
      go_wp2_with (at_builtin; refine wpList_append_fits _ rfl (.tmp 50) (.tmp 55) 22 rfl w1.heap.size 28 i0 3 Try.underlying22 hi hz1 w1.heap.size k (n + 1) _ rfl (hown'.alloc _) ⟨wr.heap.size, 0, none⟩ 1 1 (three line col sev) rfl rfl (three_cells wr _ _ _) (three_one _ _ _) (by omega) ?_)
      intro w3 hown1 hgrow
      have hb3 := below_append HB.out hgrow HZ.out
      have hfl : flat (put k line L) (put k col C) (put k sev S) (k + 1) = flat (put k line L) (put k col C) (put k sev S) k ++ three line col sev := by
        simp only [flat, put_at]
      rw [← hfl] at hown1
      clear hfl hown' hgrow HB HZ
      go_wp2_with fail
      go_loopw [11, 13] (fun v i wr => ∃ j : Nat, k ≤ j ∧ j ≤ n ∧ i = .int .i64 j ∧ v = .slice (some ⟨w1.heap.size, 0, none⟩) (j + 1) (n + 1) ∧ Below w1.heap.size w1 wr ∧
          wr.ownsRow w1.heap.size 28 3 (.slice (some ⟨w1.heap.size, 0, none⟩) (j + 1) (n + 1)) (j + 1) (flat (put k line L) (put k col C) (put k sev S) (j + 1))) (fun _ i _ => n - (intOf i).toNat)
      case atStart => exact ⟨k, Nat.le_refl _, hp, rfl, rfl, hb3, hown1⟩
      case round =>
        obtain ⟨j, hkj, hj, rfl, rfl, hb, hown'⟩ := hrel
        by_cases hlt2 : j < n
        · obtain ⟨c0, c1, c2⟩ := h j (by omega)
          have hbw : b < w1.heap.size := World.block_lt_of_cell? _ _ c0
          have e0 := (hb.cell hbw).trans c0
          have e1 := (hb.cell hbw).trans c1
          have e2 := (hb.cell hbw).trans c2
          have i1 : (j : Int) < (n : Int) := by omega
          clear c0 c1 c2 hb3 hown1
          have HB : Hid (Below w1.heap.size w1 wr) := hb
          have HZ : Hid (w1.heap.size ≤ wr.heap.size) := hb.size
          clear hb
          go_wp2_with (at_builtin; refine wpList_append_fits _ rfl (.tmp 64) (.tmp 69) 22 rfl w1.heap.size 28 i0 3 Try.underlying22 hi hz1 w1.heap.size (j + 1) (n + 1) _ rfl (hown'.alloc _) ⟨wr.heap.size, 0, none⟩ 1 1 (three (L j) (C j) (S j)) rfl rfl (three_cells wr _ _ _) (three_one _ _ _) (by omega) ?_)
          intro w' hown2 hgrow
          have hb' := below_append HB.out hgrow HZ.out
          have hfl : flat (put k line L) (put k col C) (put k sev S) (j + 1 + 1) = flat (put k line L) (put k col C) (put k sev S) (j + 1) ++ three (L j) (C j) (S j) := by
            rw [flat, put_gt hkj, put_gt hkj, put_gt hkj]
          rw [← hfl] at hown2
          clear hfl hown' hgrow HB HZ e0 e1 e2
          go_wp2
          go_roundw
          case rel => exact ⟨j + 1, by omega, by omega, by go_num, rfl, hb', hown2⟩
          case measure => simp [intOf]; omega
        · obtain rfl : j = n := by omega
          clear hb3 hown1
          have hins := inRow_of_owned hown'
          have h' := h.below hb rfl
          clear hown'
          go_wp2_with fail
          refine (zzDiags_any _ j c L C S _ (by omega) (.inr ⟨b, off, rfl, h'⟩)).mono ?_
          rintro e w4 ⟨rfl, hb4, hr4⟩
          have hins4 := hins.below hb4 rfl
          have hbb4 := below_step hb hb4
          clear hb hb4 hins h'
          go_wp2_with fail
          refine (hasError_any _ 0 j j S _ (by omega) hr4).mono ?_
          rintro e w5 ⟨rfl, hb5⟩
          have hins5 := hins4.below hb5 rfl
          have hbb5 := below_step hbb4 hb5
          clear hbb4 hb5 hins4 hr4
          go_wp2_with fail
          refine (zzDiags_any _ (j + 1) (j + 1) _ _ _ _ (by omega) (.inr ⟨_, 0, rfl, hins5⟩)).mono ?_
          rintro e w6 ⟨rfl, hb6, hr6⟩
          have hbb6 := below_step hbb5 hb6
          clear hbb5 hb6 hins5
          go_wp2_with fail
          refine (hasError_any _ 0 (j + 1) (j + 1) _ _ (by omega) hr6).mono ?_
          rintro e w7 ⟨rfl, hb7⟩
          have hbb7 := below_step hbb6 hb7
          clear hbb6 hb7 hr6
          have hput := hasErr_put j k sev S hp
          cases hS : hasErr j S
          · have h1 : hasErr (j + 1) (put k sev S) = (sev == 0) := by rw [hput, hS]; simp
            clear hput
            go_wp2_with fail
            go_ret
            exact ⟨by simp, hbb7⟩
          · have h1 : hasErr (j + 1) (put k sev S) = true := by rw [hput, hS]; simp
            clear hput
            go_wp2_with fail
            go_ret
            exact ⟨by simp, hbb7⟩

set_option maxHeartbeats 1000000 in
/-- no diagnostics -/
theorem insert_zero (ao : Option Addr) (c : Nat) (line col sev : Int) (w : World) :
    Calls Try.prog 4 #[.slice ao 0 c, .int .i64 0, .int .i64 line, .int .i64 col, .int .i64 sev] w fun e w' => e = .returned (.bool true) ∧ Below w.heap.size w w' := by
  have hd : decide (0 ≤ 1048576) = true := by simp
  obtain ⟨i0, hi, hz0, hz1, hz2⟩ := info_parts Try.info28
  go_enter Try.func4, Try.ntmps4
  go_wp2_with fail
  refine (zzBytes10 _ 0 c _ _ _ _ _ (by omega)).mono ?_
  rintro e w1 ⟨rfl, hw⟩
  subst hw
  go_wp2_with (at_make; refine wpList_make_own _ rfl _ _ 22 rfl w1.heap.size 28 i0 _ 3 Try.underlying22 hi hz0 hz1 .i64 .i64 _ 1 rfl rfl (by omega) (by rw [hz2]; omega) (by unfold maxLen; omega) (Nat.le_refl _) ?_)
  intro w2 hown hgrow
  have hb2 : Below w1.heap.size w1 w2 := (Below.refl _ _).grown hgrow (Nat.le_refl _) (fun k hk => by cases hk)
  clear hgrow
  go_wp2_with fail
  go_loopw [11, 12] (fun v i wr => i = .int .i64 0 ∧ v = .slice (some ⟨w1.heap.size, 0, none⟩) 0 1 ∧ Below w1.heap.size w1 wr ∧
      wr.ownsRow w1.heap.size 28 3 (.slice (some ⟨w1.heap.size, 0, none⟩) 0 1) 0 []) (fun _ _ _ => 0)
  case atStart => exact ⟨rfl, rfl, hb2, hown⟩
  case round =>
    obtain ⟨rfl, rfl, hb, hown'⟩ := hrel
    have HB : Hid (Below w1.heap.size w1 wr) := hb
    have HZ : Hid (w1.heap.size ≤ wr.heap.size) := hb.size
    clear hb hb2 hown
    go_wp2_with (at_builtin; refine wpList_append_fits _ rfl (.tmp 50) (.tmp 55) 22 rfl w1.heap.size 28 i0 3 Try.underlying22 hi hz1 w1.heap.size 0 1 _ rfl (hown'.alloc _) ⟨wr.heap.size, 0, none⟩ 1 1 (three line col sev) rfl rfl (three_cells wr _ _ _) (three_one _ _ _) (by omega) ?_)
    intro w3 hown1 hgrow
    have hb3 := below_append HB.out hgrow HZ.out
    have hfl : flat (fun _ => line) (fun _ => col) (fun _ => sev) 1 = three line col sev := rfl
    rw [← hfl] at hown1
    clear hfl hown' hgrow HB HZ
    go_wp2_with fail
    go_loopw [11, 13] (fun v i wr => i = .int .i64 0 ∧ v = .slice (some ⟨w1.heap.size, 0, none⟩) 1 1 ∧ Below w1.heap.size w1 wr ∧
        wr.ownsRow w1.heap.size 28 3 (.slice (some ⟨w1.heap.size, 0, none⟩) 1 1) 1 (flat (fun _ => line) (fun _ => col) (fun _ => sev) 1)) (fun _ _ _ => 0)
    case atStart => exact ⟨rfl, rfl, hb3, hown1⟩
    case round =>
      obtain ⟨rfl, rfl, hb, hown'⟩ := hrel
      clear hb3 hown1
      have hins := inRow_of_owned hown'
      clear hown'
      go_wp2_with fail
      refine (zzDiags_zero _ _ _).mono ?_
      rintro e w4 ⟨rfl, hb4⟩
      have hins4 := hins.below hb4 rfl
      have hbb4 := below_step hb hb4
      clear hb hb4 hins
      go_wp2_with fail
      refine (hasError_any _ 0 0 0 (fun _ => 0) _ (by omega) (fun i hi => absurd hi (Nat.not_lt_zero _))).mono ?_
      rintro e w5 ⟨rfl, hb5⟩
      have hins5 := hins4.below hb5 rfl
      have hbb5 := below_step hbb4 hb5
      clear hbb4 hb5 hins4
      go_wp2_with fail
      refine (zzDiags_any _ 1 1 _ _ _ _ (by omega) (.inr ⟨_, 0, rfl, hins5⟩)).mono ?_
      rintro e w6 ⟨rfl, hb6, hr6⟩
      have hbb6 := below_step hbb5 hb6
      clear hbb5 hb6 hins5
      go_wp2_with fail
      refine (hasError_any _ 0 1 1 _ _ (by omega) hr6).mono ?_
      rintro e w7 ⟨rfl, hb7⟩
      have hbb7 := below_step hbb6 hb7
      clear hbb6 hb7 hr6
      have h0 : hasErr 0 (fun _ => 0) = false := rfl
      have h1 : hasErr 1 (fun _ => sev) = (sev == 0) := hasErr_one _
      go_wp2_with fail
      go_ret
      exact ⟨by simp, hbb7⟩

set_option maxHeartbeats 1000000 in
theorem insert_early (ao : Option Addr) (n c : Nat) (k line col sev : Int) (w : World) (hn : n ≤ 9223372036854775807) (h : 43689 < n ∨ k < 0 ∨ (n : Int) < k) :
    Calls Try.prog 4 #[.slice ao n c, .int .i64 k, .int .i64 line, .int .i64 col, .int .i64 sev] w fun e w' => e = .returned (.bool true) ∧ Below w.heap.size w w' := by
  by_cases h1 : n ≤ 1048576
  · have hd : decide (n ≤ 1048576) = true := by simp; omega
    by_cases h2 : 43689 < n
    · go_enter Try.func4, Try.ntmps4
      go_wp2_with fail
      refine (zzBytes10 _ n c _ _ _ _ _ (by omega)).mono ?_
      rintro e w1 ⟨rfl, hw⟩
      subst hw
      go_wp2_with fail
      go_ret
      exact ⟨rfl, Below.refl _ _⟩
    · by_cases h3 : k < 0
      · have h4 : decide (k < 0) = true := by simp; omega
        go_enter Try.func4, Try.ntmps4
        go_wp2_with fail
        refine (zzBytes10 _ n c _ _ _ _ _ (by omega)).mono ?_
        rintro e w1 ⟨rfl, hw⟩
        subst hw
        go_wp2_with fail
        go_ret
        exact ⟨rfl, Below.refl _ _⟩
      · have h4 : decide (k < 0) = false := by simp; omega
        have h5 : (n : Int) < k := by omega
        clear h
        go_enter Try.func4, Try.ntmps4
        go_wp2_with fail
        refine (zzBytes10 _ n c _ _ _ _ _ (by omega)).mono ?_
        rintro e w1 ⟨rfl, hw⟩
        subst hw
        go_wp2_with fail
        go_ret
        exact ⟨rfl, Below.refl _ _⟩
  · have hd : decide (n ≤ 1048576) = false := by simp; omega
    go_enter Try.func4, Try.ntmps4
    go_wp2_with fail
    refine (zzBytes10 _ n c _ _ _ _ _ (by omega)).mono ?_
    rintro e w1 ⟨rfl, hw⟩
    subst hw
    go_wp2_with fail
    go_ret
    exact ⟨rfl, Below.refl _ _⟩
end Go.Proofs.Qxb6614573a
