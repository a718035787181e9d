import Derived.Test.Qxb6614573aBase
namespace Go.Proofs.Qxb6614573a
open Go.RowKit

/-- WHAT 'zzDiags' READS: n diagnostics of three cells each. -/
def InRow (w : World) (b off n : Nat) (L C S : Nat → Int) : Prop :=
  ∀ i, i < n → w.cell? ⟨b, off + i * 3, none⟩ = some (.int .i64 (L i)) ∧ w.cell? ⟨b, off + i * 3 + 1, none⟩ = some (.int .i64 (C i)) ∧ w.cell? ⟨b, off + i * 3 + 2, none⟩ = some (.int .i64 (S i))

/-- one diagnostic's cells -/
def five (l c s : Int) (r : Nat) : Value := if r = 0 then .int .i64 l else if r = 1 then .int .i64 c else if r = 2 then .int .i64 s else if r = 3 then .string ByteArray.empty else .slice none 0 0
/-- the new block's cells, k elements filled -/
def cont (k : Nat) (L C S : Nat → Int) (j : Nat) : Value := if j / 5 < k then five (L (j / 5)) (C (j / 5)) (S (j / 5)) (j % 5) else five 0 0 0 (j % 5)

theorem cont_at (k i r : Nat) (L C S : Nat → Int) (hr : r < 5) : cont k L C S (i * 5 + r) = if i < k then five (L i) (C i) (S i) r else five 0 0 0 r := by
  unfold cont
  rw [show (i * 5 + r) / 5 = i by omega, show (i * 5 + r) % 5 = r by omega]

theorem cont_step {wr : World} {g n k : Nat} {L C S : Nat → Int} (h : wr.rowIs g 50 (n * 5) (cont k L C S)) :
    (((((wr.setCell ⟨g, k * 5, none⟩ (.int .i64 (L k))).setCell ⟨g, k * 5 + 1, none⟩ (.int .i64 (C k))).setCell ⟨g, k * 5 + 2, none⟩ (.int .i64 (S k))).setCell ⟨g, k * 5 + 3, none⟩ (.string ByteArray.empty)).setCell ⟨g, k * 5 + 4, none⟩ (.slice none 0 0)).rowIs g 50 (n * 5) (cont (k + 1) L C S) := by
  refine (((((h.set (k * 5) _).set (k * 5 + 1) _).set (k * 5 + 2) _).set (k * 5 + 3) _).set (k * 5 + 4) _).congr fun j _ => ?_
  obtain ⟨i, r, hr, rfl⟩ : ∃ i r, r < 5 ∧ j = i * 5 + r := ⟨j / 5, j % 5, by omega, by omega⟩
  rw [cont_at _ _ _ _ _ _ hr, cont_at _ _ _ _ _ _ hr]
  by_cases e : i = k
  · subst e
    rw [if_pos (show i < i + 1 by omega)]
    rcases (by omega : r = 0 ∨ r = 1 ∨ r = 2 ∨ r = 3 ∨ r = 4) with rfl | rfl | rfl | rfl | rfl <;> simp [five]
  · rw [if_neg (by omega), if_neg (by omega), if_neg (by omega), if_neg (by omega), if_neg (by omega)]
    by_cases hlt : i < k
    · rw [if_pos hlt, if_pos (by omega)]
    · rw [if_neg hlt, if_neg (by omega)]

theorem cont_start (w : World) (n : Nat) (L C S : Nat → Int) :
    (w.alloc (.cells (madeCells #[.int .i64 0, .int .i64 0, .int .i64 0, .string ByteArray.empty, .slice none 0 0] (n * 5)) 50)).rowIs w.heap.size 50 (n * 5) (cont 0 L C S) := by
  have e : (madeCells #[.int .i64 0, .int .i64 0, .int .i64 0, .string ByteArray.empty, .slice none 0 0] (n * 5)).size = n * 5 := size_madeCells _ _
  have := World.rowIs_alloc w (madeCells #[.int .i64 0, .int .i64 0, .int .i64 0, .string ByteArray.empty, .slice none 0 0] (n * 5)) 50 (cont 0 L C S) (fun j hj => by
    rw [e] at hj
    unfold cont
    rw [if_neg (by omega)]
    have h5 : j % 5 < 5 := by omega
    have e2 : (madeCells #[.int .i64 0, .int .i64 0, .int .i64 0, .string ByteArray.empty, .slice none 0 0] (n * 5))[j]? = some ((#[.int .i64 0, .int .i64 0, .int .i64 0, .string ByteArray.empty, .slice none 0 0] : Array Value)[j % 5]!) := by
      simp [madeCells, hj]
    rw [e2]
    generalize j % 5 = r at h5
    rcases (by omega : r = 0 ∨ r = 1 ∨ r = 2 ∨ r = 3 ∨ r = 4) with rfl | rfl | rfl | rfl | rfl <;> rfl)
  rwa [e] at this

theorem diagRow_of {w : World} {g n : Nat} {L C S : Nat → Int} (h : w.rowIs g 50 (n * 5) (cont n L C S)) : DiagRow w g 0 n S := by
  intro i hi
  have c0 := h.cell (i := i * 5 + 0) (by omega)
  have c1 := h.cell (i := i * 5 + 1) (by omega)
  have c2 := h.cell (i := i * 5 + 2) (by omega)
  have c3 := h.cell (i := i * 5 + 3) (by omega)
  have c4 := h.cell (i := i * 5 + 4) (by omega)
  rw [cont_at _ _ _ _ _ _ (by omega), if_pos hi] at c0 c1 c2 c3 c4
  exact ⟨L i, C i, ByteArray.empty, none, by simpa [five] using c0, by simpa [five] using c1, by simpa [five] using c2, by simpa [five] using c3, by simpa [five] using c4⟩

theorem zeros_of {w : World} {g n k : Nat} {L C S : Nat → Int} (h : w.rowIs g 50 (n * 5) (cont k L C S)) (hk : k < n) :
    w.cell? ⟨g, k * 5, none⟩ = some (.int .i64 0) ∧ w.cell? ⟨g, k * 5 + 1, none⟩ = some (.int .i64 0) ∧ w.cell? ⟨g, k * 5 + 2, none⟩ = some (.int .i64 0) ∧ w.cell? ⟨g, k * 5 + 3, none⟩ = some (.string ByteArray.empty) ∧
      w.cell? ⟨g, k * 5 + 4, none⟩ = some (.slice none 0 0) := by
  have c0 := h.cell (i := k * 5 + 0) (by omega)
  have c1 := h.cell (i := k * 5 + 1) (by omega)
  have c2 := h.cell (i := k * 5 + 2) (by omega)
  have c3 := h.cell (i := k * 5 + 3) (by omega)
  have c4 := h.cell (i := k * 5 + 4) (by omega)
  rw [cont_at _ _ _ _ _ _ (by omega), if_neg (by omega)] at c0 c1 c2 c3 c4
  exact ⟨by simpa [five] using c0, by simpa [five] using c1, by simpa [five] using c2, by simpa [five] using c3, by simpa [five] using c4⟩

theorem make_diags (n : Nat) (hn : n ≤ 1048576) (w : World) : (Instr.makeSlice 24 (.int .i64 (n : Int)) (.int .i64 (n : Int))).run Try.prog w =
    .ok (.slice (some ⟨w.heap.size, 0, none⟩) n n) (w.alloc (.cells (madeCells #[.int .i64 0, .int .i64 0, .int .i64 0, .string ByteArray.empty, .slice none 0 0] (n * 5)) 50)) := by
  obtain ⟨i0, hi, hz0, hz1, hz2⟩ := info_parts Try.info50
  have := run_make (P := Try.prog) w 24 50 i0 _ Try.underlying24 hi hz0 .i64 .i64 n n (by omega) (Int.le_refl _) (by rw [hz2]; omega) (by omega)
  simp only [hz1, Int.toNat_natCast] at this
  exact this

set_option maxHeartbeats 400000 in
theorem zzDiags_pos (b off n c : Nat) (L C S : Nat → Int) (w : World) (hn : n ≤ 1048576) (_hpos : 0 < n) (h : InRow w b off n L C S) :
    Calls Try.prog 8 #[.slice (some ⟨b, off, none⟩) n c] w fun e w' => e = .returned (.slice (some ⟨w.heap.size, 0, none⟩) n n) ∧ Below w.heap.size w w' ∧ DiagRow w' w.heap.size 0 n S := by
  have hmk := make_diags n hn
  go_enter Try.func8, Try.ntmps8
  go_wp2
  go_loopw [4] (fun i wr => ∃ k : Nat, k ≤ n ∧ i = .int .i64 k ∧ Below w.heap.size w wr ∧ wr.rowIs w.heap.size 50 (n * 5) (cont k L C S)) (fun i _ => n - (intOf i).toNat)
  case atStart => exact ⟨0, Nat.zero_le _, rfl, (Below.refl _ _).alloc (Nat.le_refl _) _, cont_start w n L C S⟩
  case round =>
    obtain ⟨k, hk, rfl, hb, hrow⟩ := hrel
    by_cases hlt : k < n
    · obtain ⟨c0, c1, c2⟩ := h k hlt
      have hbw : b < w.heap.size := World.block_lt_of_cell? _ _ c0
      have e0 := (hb.cell hbw).trans c0
      have e1 := (hb.cell hbw).trans c1
      have e2 := (hb.cell hbw).trans c2
      obtain ⟨g0, g1, g2, g3, g4⟩ := zeros_of hrow hlt
      have gf : ∀ j, wr.frozen? ⟨w.heap.size, j, none⟩ = false := fun j => hrow.frozen j
      have hne : b ≠ w.heap.size := by omega
      have i1 : (k : Int) < (n : Int) := by omega
      have HB : Hid (Below w.heap.size w wr) := hb
      have HD : Hid (wr.rowIs w.heap.size 50 (n * 5) (cont k L C S)) := hrow
      clear hb hrow c0 c1 c2 h hmk
      go_wp2
      go_big_region
      go_wp2
      go_roundw
      case rel =>
        refine ⟨k + 1, by omega, by go_num, ?_, ?_⟩
        · exact (((((HB.out.setCell (Nat.le_refl _) _).setCell (Nat.le_refl _) _).setCell (Nat.le_refl _) _).setCell (Nat.le_refl _) _).setCell (Nat.le_refl _) _).drew
        · exact (cont_step HD.out).drew
      case measure => simp [intOf]; omega
    · obtain rfl : k = n := by omega
      go_wp2
      go_ret
      exact ⟨rfl, hb, diagRow_of hrow⟩

set_option maxHeartbeats 400000 in
theorem zzDiags_zero (ao : Option Addr) (c : Nat) (w : World) :
    Calls Try.prog 8 #[.slice ao 0 c] w fun e w' => e = .returned (.slice (some ⟨w.heap.size, 0, none⟩) 0 0) ∧ Below w.heap.size w w' := by
  have hmk := make_diags 0 (by omega)
  simp only [Int.natCast_zero, Nat.zero_mul] at hmk
  go_enter Try.func8, Try.ntmps8
  go_wp2
  go_loopw [4] (fun i wr => i = .int .i64 0 ∧ Below w.heap.size w wr) (fun _ _ => 0)
  case atStart => exact ⟨rfl, (Below.refl _ _).alloc (Nat.le_refl _) _⟩
  case round =>
    obtain ⟨rfl, hb⟩ := hrel
    go_wp2
    go_ret
    exact ⟨rfl, hb⟩

/-- nothing, or a row of three cells an element -/
def Ins (w : World) (ao : Option Addr) (n : Nat) (L C S : Nat → Int) : Prop := n = 0 ∨ ∃ b off, ao = some ⟨b, off, none⟩ ∧ InRow w b off n L C S

theorem zzDiags_any (ao : Option Addr) (n c : Nat) (L C S : Nat → Int) (w : World) (hn : n ≤ 1048576) (h : Ins w ao n L C S) :
    Calls Try.prog 8 #[.slice ao n c] w fun e w' => e = .returned (.slice (some ⟨w.heap.size, 0, none⟩) n n) ∧ Below w.heap.size w w' ∧ DiagRow w' w.heap.size 0 n S := by
  rcases Nat.eq_zero_or_pos n with rfl | hpos
  · exact (zzDiags_zero ao c w).mono fun e w' ⟨he, hb⟩ => ⟨he, hb, fun i hi => absurd hi (Nat.not_lt_zero _)⟩
  · rcases h with h | ⟨b, off, rfl, h⟩
    · omega
    · exact zzDiags_pos b off n c L C S w hn hpos h

theorem InRow.below {w w' : World} {b off n : Nat} {L C S : Nat → Int} (h : InRow w b off n L C S) {B : Nat} (hb : Below B w w') (hB : B = w.heap.size) : InRow w' b off n L C S := by
  subst hB
  intro i hi
  obtain ⟨c0, c1, c2⟩ := h i hi
  have hbw : b < w.heap.size := World.block_lt_of_cell? _ _ c0
  exact ⟨(hb.cell hbw).trans c0, (hb.cell hbw).trans c1, (hb.cell hbw).trans c2⟩

theorem Ins.below {w w' : World} {ao : Option Addr} {n : Nat} {L C S : Nat → Int} (h : Ins w ao n L C S) (hb : Below w.heap.size w w') : Ins w' ao n L C S := by
  rcases h with h | ⟨b, off, e, h⟩
  · exact .inl h
  · exact .inr ⟨b, off, e, h.below hb rfl⟩

theorem DiagRow.below {w w' : World} {g off n : Nat} {S : Nat → Int} (h : DiagRow w g off n S) (hb : Below w.heap.size w w') : DiagRow w' g off n S := by
  intro i hi
  obtain ⟨l, c, s, a, c0, c1, c2, c3, c4⟩ := h i hi
  have hbw : g < w.heap.size := World.block_lt_of_cell? _ _ c0
  exact ⟨l, c, s, a, (hb.cell hbw).trans c0, (hb.cell hbw).trans c1, (hb.cell hbw).trans c2, (hb.cell hbw).trans c3, (hb.cell hbw).trans c4⟩

theorem DiagRow.less {w : World} {g off n m : Nat} {S : Nat → Int} (h : DiagRow w g off n S) (hm : m ≤ n) : DiagRow w g off m S := fun i hi => h i (by omega)

/-- the cells from element k on -/
theorem InRow.tail3 {w : World} {b off n k m : Nat} {L C S : Nat → Int} (h : InRow w b off n L C S) (hm : k + m ≤ n) : InRow w b (off + k * 3) m (fun i => L (k + i)) (fun i => C (k + i)) (fun i => S (k + i)) := by
  intro i hi
  obtain ⟨c0, c1, c2⟩ := h (k + i) (by omega)
  rw [show off + (k + i) * 3 = off + k * 3 + i * 3 by omega] at c0 c1 c2
  exact ⟨c0, c1, c2⟩

theorem InRow.less {w : World} {b off n m : Nat} {L C S : Nat → Int} (h : InRow w b off n L C S) (hm : m ≤ n) : InRow w b off m L C S := fun i hi => h i (by omega)

theorem hasErr_split (n k : Nat) (S : Nat → Int) (hk : k ≤ n) : hasErr n S = (hasErr k S || hasErr (n - k) (fun i => S (k + i))) := by
  obtain ⟨m, rfl⟩ : ∃ m, n = k + m := ⟨n - k, by omega⟩
  rw [show k + m - k = m by omega]
  unfold hasErr
  rw [List.range_add, List.any_append, List.any_map]
  rfl
theorem hasErr_zero (S : Nat → Int) : hasErr 0 S = false := rfl
theorem hasErr_one (S : Nat → Int) : hasErr 1 S = (S 0 == 0) := by simp [hasErr, List.range_succ]
end Go.Proofs.Qxb6614573a
