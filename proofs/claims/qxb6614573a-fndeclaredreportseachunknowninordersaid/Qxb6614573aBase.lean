import Derived.Test.Qxb6614573aRows
import Derived.WalkKit
import Derived.WalkSpells
import Derived.WalkLawsBesides
import Derived.BigQuiet
import Derived.Deep.QuietTactic
import Derived.Deep.OwnRows
namespace Go.Proofs.Qxb6614573a
open Go.RowKit

theorem Try.own : ownKnob Try.prog.godebug = none := by kernel_rfl
theorem Try.laidOut : laidOutB Try.prog = true := by kernel_rfl
theorem Try.cells3 : Try.prog.cellsOf 3 = 1 := by kernel_rfl
theorem Try.cells9 : Try.prog.cellsOf 9 = 1 := by kernel_rfl
theorem Try.cells28 : Try.prog.cellsOf 28 = 3 := by kernel_rfl
theorem Try.cells34 : Try.prog.cellsOf 34 = 3 := by kernel_rfl
theorem Try.cells50 : Try.prog.cellsOf 50 = 5 := by kernel_rfl
theorem Try.info50 : (Try.prog.info? 50).map (fun i => (i.zero, i.size, i.bytes)) = some (some (.agg #[.int .i64 0, .int .i64 0, .int .i64 0, .string ByteArray.empty, .slice none 0 0]), 5, 64) := by kernel_rfl

/-- WHAT 'HasError' READS: n diagnostics of five cells each, the third the severity. -/
def DiagRow (w : World) (g off n : Nat) (S : Nat → Int) : Prop :=
  ∀ i, i < n → ∃ l c s a, w.cell? ⟨g, off + i * 5, none⟩ = some (.int .i64 l) ∧ w.cell? ⟨g, off + i * 5 + 1, none⟩ = some (.int .i64 c) ∧
    w.cell? ⟨g, off + i * 5 + 2, none⟩ = some (.int .i64 (S i)) ∧ w.cell? ⟨g, off + i * 5 + 3, none⟩ = some (.string s) ∧ w.cell? ⟨g, off + i * 5 + 4, none⟩ = some (.slice a 0 0)

def hasErr (n : Nat) (S : Nat → Int) : Bool := (List.range n).any fun i => S i == 0

theorem hasErr_true {n : Nat} {S : Nat → Int} {k : Nat} (hk : k < n) (h : S k = 0) : hasErr n S = true := by
  simp only [hasErr, List.any_eq_true]
  exact ⟨k, List.mem_range.2 hk, by simp [h]⟩
theorem hasErr_false {n : Nat} {S : Nat → Int} (h : ∀ j, j < n → S j ≠ 0) : hasErr n S = false := by
  simp only [hasErr, List.any_eq_false]
  intro j hj
  simpa using h j (List.mem_range.1 hj)

set_option maxHeartbeats 400000 in
theorem hasError_any (g off n c : Nat) (S : Nat → Int) (w : World) (hn : n ≤ 1048576) (h : DiagRow w g off n S) :
    Calls Try.prog 9 #[.slice (some ⟨g, off, none⟩) n c] w fun e w' => e = .returned (.bool (hasErr n S)) ∧ Below w.heap.size w w' := by
  go_enter Try.func9, Try.ntmps9
  go_wp2
  go_loopw [7] (fun i wr => ∃ k : Nat, k ≤ n ∧ i = .int .i64 k ∧ Below w.heap.size w wr ∧ ∀ j, j < k → S j ≠ 0) (fun i _ => n - (intOf i).toNat)
  case atStart => exact ⟨0, Nat.zero_le _, rfl, Below.refl _ _, fun j hj => absurd hj (Nat.not_lt_zero _)⟩
  case round =>
    obtain ⟨k, hk, rfl, hb, hz⟩ := hrel
    by_cases hlt : k < n
    · obtain ⟨l, cc, s, a, c0, c1, c2, c3, c4⟩ := h k hlt
      have e0 := (hb.cell (World.block_lt_of_cell? _ _ c0)).trans c0
      have e1 := (hb.cell (World.block_lt_of_cell? _ _ c1)).trans c1
      have e2 := (hb.cell (World.block_lt_of_cell? _ _ c2)).trans c2
      have e3 := (hb.cell (World.block_lt_of_cell? _ _ c3)).trans c3
      have e4 := (hb.cell (World.block_lt_of_cell? _ _ c4)).trans c4
      have HZ : Hid (∀ j, j < k → S j ≠ 0) := hz
      have HB : Hid (Below w.heap.size w wr) := hb
      clear hz hb c0 c1 c2 c3 c4 h
      go_wp2
      · have hs : (S k == 0) = true := by assumption
        go_ret
        exact ⟨by rw [hasErr_true hlt (by simpa using hs)]; rfl, HB.out.alloc HB.out.size _⟩
      · have hs : (S k == 0) = false := by assumption
        go_roundw
        case rel => exact ⟨k + 1, by omega, by go_num, HB.out.alloc HB.out.size _, fun j hj => by
          by_cases e : j = k
          · subst e; simpa using hs
          · exact HZ.out j (by omega)⟩
        case measure => simp [intOf]; omega
    · go_wp2
      go_ret
      exact ⟨by rw [hasErr_false (fun j hj => hz j (by omega))]; rfl, hb⟩
end Go.Proofs.Qxb6614573a
