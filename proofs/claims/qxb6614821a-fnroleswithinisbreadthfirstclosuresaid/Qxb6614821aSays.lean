import Derived.Test.Qxb6614821aState
namespace Go.Proofs.Qxb6614821a
open Go.RowKit

/-- what the search hands back: a row of its own that holds the roles found -/
def Got (n₀ n r : Nat) (Len : Nat → Nat) (R : Nat → Nat → Nat) (W : World) (g cap : Nat) (xs : List Nat) : Prop :=
  Bfs n r Len R xs xs.length 0 ∧ W.ownsRow n₀ 29 1 (.slice (some ⟨g, 0, none⟩) xs.length cap) xs.length (vals xs)

/-- the lists that the search reads -/
structure Reads (bR bA n : Nat) (A A' : Nat → Option Addr) (Len C L' C' : Nat → Nat) (R : Nat → Nat → Nat) (w : World) : Prop where
  lists : ∀ v, v < n → w.cell? ⟨bR, v, none⟩ = some (.slice (A v) (Len v) (C v))
  others : ∀ v, v < n → w.cell? ⟨bA, v, none⟩ = some (.slice (A' v) (L' v) (C' v))
  items : ∀ v, v < n → ∃ b off, (Len v = 0 ∨ A v = some ⟨b, off, none⟩) ∧ ∀ j, j < Len v → w.cell? ⟨b, off + j, none⟩ = some (.int .i32 (R v j : Int))

/-- what a search leaves -/
def SearchPost (n r : Nat) (Len : Nat → Nat) (R : Nat → Nat → Nat) (w : World) (e : Ending) (W' : World) : Prop :=
  ∃ g cap xs, e = .returned (.slice (some ⟨g, 0, none⟩) xs.length cap) ∧ Got w.heap.size n r Len R W' g cap xs ∧ Below w.heap.size w W'

/-- THE CONTRACT OF dbms.ZZrolesWithin. -/
def ZzSays : Prop := ∀ (bR bA n r : Nat) (A A' : Nat → Option Addr) (Len C L' C' : Nat → Nat) (R : Nat → Nat → Nat) (w : World), r < n → n ≤ 4096 → (∀ a, a < n → Len a ≤ 1048576) → (∀ a, a < n → ∀ j, j < Len a → R a j < n) →
  Reads bR bA n A A' Len C L' C' R w →
  Calls Try.prog 7 #[.slice (some ⟨bR, 0, none⟩) n n, .slice (some ⟨bA, 0, none⟩) n n, .int .i32 (r : Int)] w fun e W' => SearchPost n r Len R w e W'

theorem row_cell {W : World} {n₀ g cap : Nat} {ys : List Nat} (h : W.ownsRow n₀ 29 1 (.slice (some ⟨g, 0, none⟩) ys.length cap) ys.length (vals ys)) {k : Nat} (hk : k < ys.length) :
    W.cell? ⟨g, k, none⟩ = some (.int .i32 (ix ys k : Int)) := by
  rcases h.2 with ⟨e, _⟩ | ⟨g', cap', cur, e, _, hgb, h1, h2, h3, h4⟩
  · cases e
  · cases e
    have h5 : cur[k]? = some (.int .i32 (ix ys k : Int)) := by
      have q : (vals ys)[k]? = some (.int .i32 (ix ys k : Int)) := by
        simp [vals, ix, List.getElem?_eq_getElem hk]
      rw [← h4, List.getElem?_take_of_lt (by omega)] at q
      simpa using q
    simp [World.cell?, hgb, h5]
end Go.Proofs.Qxb6614821a
