import Derived.Test.Qxb6615485aRows
import Derived.WalkKit
import Derived.WalkSpells
import Derived.WalkLawsBesides
import Derived.BigQuiet
import Derived.Deep.QuietTactic
namespace Go.Proofs.Qxb6615485a
open Go.RowKit

theorem ret_bool {a b : Bool} (h : a = b) : Ending.returned (.bool a) = .returned (.bool b) := by rw [h]

/-- does the byte c stand at place i -/
def atB (t : ByteArray) (i : Int) (c : Int) : Bool := if h : 0 ≤ i ∧ i.toNat < t.size then ((t[i.toNat]'h.2).toNat : Int) == c else false

theorem atB_in {t : ByteArray} {n : Nat} (h : n < t.size) (c : Int) : atB t n c = (((t[n]'h).toNat : Int) == c) := by
  unfold atB
  rw [dif_pos ⟨by omega, by simpa using h⟩]
  rfl
theorem atB_out {t : ByteArray} {i : Int} (h : (t.size : Int) ≤ i) (c : Int) : atB t i c = false := by
  unfold atB
  rw [dif_neg (by omega)]

/-- a scan's cells -/
def Scan (w : World) (b : Nat) (t : ByteArray) (i line : Int) : Prop := w.cell? ⟨b, 0, none⟩ = some (.string t) ∧ w.cell? ⟨b, 1, none⟩ = some (.int .i64 i) ∧ w.cell? ⟨b, 2, none⟩ = some (.int .i64 line)

set_option maxHeartbeats 1000000 in
theorem at_any (b : Nat) (t : ByteArray) (i line c : Int) (w : World) (h : Scan w b t i line) (hi : 0 ≤ i) :
    Calls Try.prog 12 #[.pointer (some ⟨b, 0, none⟩), .int .u8 c] w fun e w' => e = .returned (.bool (atB t i c)) ∧ ∃ n, w' = w.drewN n := by
  obtain ⟨c0, c1, _⟩ := h
  obtain ⟨n, rfl⟩ := Int.eq_ofNat_of_zero_le hi
  by_cases hlt : n < t.size
  · have d1 : decide ((n : Int) < (t.size : Int)) = true := by simp; omega
    have i1 : (n : Int) < (t.size : Int) := by omega
    rw [atB_in hlt]
    go_enter Try.func12, Try.ntmps12
    go_wp2
    go_quiet (fail)
    go_wp2
    go_ret
    exact ⟨rfl, nq, rfl⟩
  · have d1 : decide ((n : Int) < (t.size : Int)) = false := by simp; omega
    rw [atB_out (by omega)]
    go_enter Try.func12, Try.ntmps12
    go_wp2
    go_quiet (fail)
    go_wp2
    go_ret
    exact ⟨rfl, nq, rfl⟩

theorem scanAt_any (b : Nat) (t : ByteArray) (i line c : Int) (w : World) (h : Scan w b t i line) (hi : 0 ≤ i) :
    Calls Try.prog 6 #[.pointer (some ⟨b, 0, none⟩), .int .u8 c] w fun e w' => e = .returned (.bool (atB t i c)) ∧ ∃ n, w' = w.drewN n := by
  go_enter Try.func6, Try.ntmps6
  go_wp2_with fail
  refine (at_any b t i line c _ h hi).mono ?_
  rintro e w1 ⟨rfl, hw1⟩
  have hd : Hid (∃ n, w1 = w.drewN n) := hw1
  clear hw1
  go_wp2_with fail
  go_ret
  exact ⟨rfl, hd.out⟩

theorem newScan_any (t : ByteArray) (i line : Int) (w : World) :
    Calls Try.prog 7 #[.string t, .int .i64 i, .int .i64 line] w fun e w' => e = .returned (.pointer (some ⟨w.heap.size, 0, none⟩)) ∧ w' = w.alloc (.cells #[.string t, .int .i64 i, .int .i64 line] 31) := by
  go_enter Try.func7, Try.ntmps7
  go_wp2
  go_ret
  exact ⟨rfl, rfl⟩

theorem scan_new (t : ByteArray) (i line : Int) (w : World) : Scan (w.alloc (.cells #[.string t, .int .i64 i, .int .i64 line] 31)) w.heap.size t i line := by
  refine ⟨?_, ?_, ?_⟩
  · rw [cell_of_row _ _ 0 _ _ _ (heap_alloc_new w _)]; rfl
  · rw [cell_of_row _ _ 1 _ _ _ (heap_alloc_new w _)]; rfl
  · rw [cell_of_row _ _ 2 _ _ _ (heap_alloc_new w _)]; rfl

theorem Scan.drewN {w : World} {b : Nat} {t : ByteArray} {i line : Int} (h : Scan w b t i line) (k : Nat) : Scan (w.drewN k) b t i line := h

theorem text_any (b : Nat) (t : ByteArray) (i line : Int) (w : World) (h : Scan w b t i line) : Calls Try.prog 9 #[.pointer (some ⟨b, 0, none⟩)] w fun e w' => e = .returned (.string t) ∧ w' = w := by
  obtain ⟨c0, c1, c2⟩ := h
  go_enter Try.func9, Try.ntmps9
  go_wp2
  go_ret
  exact ⟨rfl, rfl⟩
theorem place_any (b : Nat) (t : ByteArray) (i line : Int) (w : World) (h : Scan w b t i line) : Calls Try.prog 10 #[.pointer (some ⟨b, 0, none⟩)] w fun e w' => e = .returned (.int .i64 i) ∧ w' = w := by
  obtain ⟨c0, c1, c2⟩ := h
  go_enter Try.func10, Try.ntmps10
  go_wp2
  go_ret
  exact ⟨rfl, rfl⟩
theorem line_any (b : Nat) (t : ByteArray) (i line : Int) (w : World) (h : Scan w b t i line) : Calls Try.prog 11 #[.pointer (some ⟨b, 0, none⟩)] w fun e w' => e = .returned (.int .i64 line) ∧ w' = w := by
  obtain ⟨c0, c1, c2⟩ := h
  go_enter Try.func11, Try.ntmps11
  go_wp2
  go_ret
  exact ⟨rfl, rfl⟩
end Go.Proofs.Qxb6615485a
