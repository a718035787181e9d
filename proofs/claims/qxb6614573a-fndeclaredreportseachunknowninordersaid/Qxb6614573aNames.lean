import Derived.Test.Qxb6614573aBase
namespace Go.Proofs.Qxb6614573a
open Go.RowKit

/-- n strings lie behind the slice's address -/
def StrRow (w : World) (b off n : Nat) (X : Nat → ByteArray) : Prop := ∀ i, i < n → w.cell? ⟨b, off + i, none⟩ = some (.string (X i))

theorem StrRow.below {w w' : World} {b off n : Nat} {X : Nat → ByteArray} (h : StrRow w b off n X) (hb : Below w.heap.size w w') : StrRow w' b off n X :=
  fun i hi => (hb.cell (World.block_lt_of_cell? _ _ (h i hi))).trans (h i hi)

theorem str_eq (a b : ByteArray) : (a.toList == b.toList) = decide (a = b) := by
  rw [Bool.eq_iff_iff, beq_iff_eq, decide_eq_true_iff, ByteArray.toList_eq, ByteArray.toList_eq]
  constructor
  · intro h
    cases a
    cases b
    simp_all
  · rintro rfl
    rfl

def hasName (n : Nat) (X : Nat → ByteArray) (s : ByteArray) : Bool := (List.range n).any fun i => decide (X i = s)

theorem hasName_iff (n : Nat) (X : Nat → ByteArray) (s : ByteArray) : hasName n X s = true ↔ ∃ i, i < n ∧ X i = s := by
  simp [hasName, List.any_eq_true]

theorem hasName_false (n : Nat) (X : Nat → ByteArray) (s : ByteArray) (h : ∀ i, i < n → X i ≠ s) : hasName n X s = false := by
  cases e : hasName n X s with
  | false => rfl
  | true =>
    obtain ⟨i, hi, q⟩ := (hasName_iff n X s).1 e
    exact absurd q (h i hi)

set_option maxHeartbeats 400000 in
theorem contains_pos (b off n c : Nat) (X : Nat → ByteArray) (s : ByteArray) (w : World) (hn : n ≤ 1048576) (h : StrRow w b off n X) :
    Calls Try.prog 15 #[.slice (some ⟨b, off, none⟩) n c, .string s] w fun e w' => e = .returned (.bool (hasName n X s)) ∧ w' = w := by
  go_enter Try.func15, Try.ntmps15
  go_wp2
  go_loop [5] (fun i => ∃ k : Nat, k ≤ n ∧ i = .int .i64 k ∧ ∀ j, j < k → X j ≠ s) (fun i => n - (intOf i).toNat)
  case atStart => exact ⟨0, Nat.zero_le _, rfl, fun j hj => absurd hj (Nat.not_lt_zero _)⟩
  case round =>
    obtain ⟨k, hk, rfl, hz⟩ := hrel
    by_cases hlt : k < n
    · have e0 := h k hlt
      have HZ : Hid (∀ j, j < k → X j ≠ s) := hz
      clear hz h
      go_wp2
      · have hq : ((X k).toList == s.toList) = true := by assumption
        rw [str_eq, decide_eq_true_iff] at hq
        go_ret
        exact ⟨by rw [(hasName_iff n X s).2 ⟨k, hlt, hq⟩]; rfl, rfl⟩
      · have hq : ((X k).toList == s.toList) = false := by assumption
        rw [str_eq, decide_eq_false_iff_not] at hq
        go_round
        case rel => exact ⟨k + 1, by omega, by go_num, fun j hj => by
          by_cases e : j = k
          · subst e; exact hq
          · exact HZ.out j (by omega)⟩
        case measure => simp [intOf]; omega
    · have := hasName_false n X s (fun i hi => hz i (by omega))
      go_wp2
      go_ret
      exact ⟨rfl, rfl⟩

theorem contains_zero (ao : Option Addr) (c : Nat) (s : ByteArray) (w : World) :
    Calls Try.prog 15 #[.slice ao 0 c, .string s] w fun e w' => e = .returned (.bool false) ∧ w' = w := by
  go_enter Try.func15, Try.ntmps15
  go_wp2
  go_loop [5] (fun i => i = .int .i64 0) (fun _ => 0)
  case atStart => rfl
  case round =>
    obtain rfl := hrel
    go_wp2
    go_ret
    exact ⟨rfl, rfl⟩

/-- WHAT A WALK IS TOLD OF A []string THAT CAME IN. -/
structure NamesIn (w : World) (ao : Option Addr) (n c : Nat) (X : Nat → ByteArray) : Prop where
  le : n ≤ c
  max : c ≤ 9223372036854775807
  row : n = 0 ∨ ∃ b off, ao = some ⟨b, off, none⟩ ∧ StrRow w b off n X
  size : ∀ i, i < n → (X i).size ≤ 9223372036854775807

theorem NamesIn.below {w w' : World} {ao : Option Addr} {n c : Nat} {X : Nat → ByteArray} (h : NamesIn w ao n c X) (hb : Below w.heap.size w w') : NamesIn w' ao n c X := by
  refine ⟨h.le, h.max, ?_, h.size⟩
  rcases h.row with q | ⟨b, off, e, q⟩
  · exact .inl q
  · exact .inr ⟨b, off, e, q.below hb⟩

theorem contains_any (ao : Option Addr) (n c : Nat) (X : Nat → ByteArray) (s : ByteArray) (w : World) (hn : n ≤ 1048576) (h : NamesIn w ao n c X) :
    Calls Try.prog 15 #[.slice ao n c, .string s] w fun e w' => e = .returned (.bool (hasName n X s)) ∧ w' = w := by
  rcases h.row with rfl | ⟨b, off, rfl, q⟩
  · exact contains_zero ao c s w
  · exact contains_pos b off n c X s w hn q
end Go.Proofs.Qxb6614573a
