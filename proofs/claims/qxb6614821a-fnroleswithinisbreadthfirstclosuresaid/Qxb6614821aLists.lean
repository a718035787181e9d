import Derived.Test.Qxb6614821aState
namespace Go.Proofs.Qxb6614821a
open Go.RowKit

/-- WHAT A WALK IS TOLD OF A [][]int32. -/
structure Mat (w : World) (ao : Option Addr) (n : Nat) (A : Nat → Option Addr) (Len C : Nat → Nat) (X : Nat → Nat → Int) : Prop where
  max : n ≤ 9223372036854775807
  rows : n = 0 ∨ ∃ b off, ao = some ⟨b, off, none⟩ ∧ ∀ v, v < n → w.cell? ⟨b, off + v, none⟩ = some (.slice (A v) (Len v) (C v))
  lens : ∀ v, v < n → Len v ≤ 9223372036854775807
  items : ∀ v, v < n → Len v = 0 ∨ ∃ b off, A v = some ⟨b, off, none⟩ ∧ ∀ j, j < Len v → w.cell? ⟨b, off + j, none⟩ = some (.int .i32 (X v j))
  kinds : ∀ v, v < n → ∀ j, j < Len v → -2147483648 ≤ X v j ∧ X v j ≤ 2147483647

theorem Mat.below {w w' : World} {ao : Option Addr} {n : Nat} {A : Nat → Option Addr} {Len C : Nat → Nat} {X : Nat → Nat → Int} (h : Mat w ao n A Len C X) (hb : Below w.heap.size w w') : Mat w' ao n A Len C X := by
  refine ⟨h.max, ?_, h.lens, fun v hv => ?_, h.kinds⟩
  · rcases h.rows with q | ⟨b, off, e, q⟩
    · exact .inl q
    · exact .inr ⟨b, off, e, fun v hv => (hb.cell (World.block_lt_of_cell? _ _ (q v hv))).trans (q v hv)⟩
  · rcases h.items v hv with q | ⟨b, off, e, q⟩
    · exact .inl q
    · exact .inr ⟨b, off, e, fun j hj => (hb.cell (World.block_lt_of_cell? _ _ (q j hj))).trans (q j hj)⟩

theorem Mat.row {w : World} {ao : Option Addr} {n : Nat} {A : Nat → Option Addr} {Len C : Nat → Nat} {X : Nat → Nat → Int} (h : Mat w ao n A Len C X) {v : Nat} (hv : v < n) :
    ∃ b off, ao = some ⟨b, off, none⟩ ∧ w.cell? ⟨b, off + v, none⟩ = some (.slice (A v) (Len v) (C v)) := by
  rcases h.rows with q | ⟨b, off, e, q⟩
  · omega
  · exact ⟨b, off, e, q v hv⟩

theorem Mat.item {w : World} {ao : Option Addr} {n : Nat} {A : Nat → Option Addr} {Len C : Nat → Nat} {X : Nat → Nat → Int} (h : Mat w ao n A Len C X) {v j : Nat} (hv : v < n) (hj : j < Len v) :
    ∃ b off, A v = some ⟨b, off, none⟩ ∧ w.cell? ⟨b, off + j, none⟩ = some (.int .i32 (X v j)) := by
  rcases h.items v hv with q | ⟨b, off, e, q⟩
  · omega
  · exact ⟨b, off, e, q j hj⟩

def Upto (k : Nat) (Len : Nat → Nat) : Prop := ∀ v, v < k → Len v ≤ 1048576
theorem upto_zero (Len : Nat → Nat) : Upto 0 Len := fun _ h => absurd h (Nat.not_lt_zero _)
theorem upto_succ {k : Nat} {Len : Nat → Nat} (h : Upto k Len) (hk : Len k ≤ 1048576) : Upto (k + 1) Len := fun v hv => by
  by_cases e : v = k
  · subst e; exact hk
  · exact h v (by omega)

/-- what the bound on bytes gives -/
def Small (n1 : Nat) (Len1 : Nat → Nat) (n2 : Nat) (Len2 : Nat → Nat) : Prop := n1 ≤ 1048576 ∧ Upto n1 Len1 ∧ n2 ≤ 1048576 ∧ Upto n2 Len2

def Told (p : Prop) (w : World) (e : Ending) (w' : World) : Prop := ∃ b, e = .returned (.bool b) ∧ (b = true → p) ∧ w' = w
theorem told_no {p : Prop} {w : World} : Told p w (.returned (.bool false)) w := ⟨false, rfl, fun h => (by cases h), rfl⟩
theorem told_yes {p : Prop} {w : World} (h : p) : Told p w (.returned (.bool true)) w := ⟨true, rfl, fun _ => h, rfl⟩

set_option maxRecDepth 100000 in
set_option maxHeartbeats 2000000 in
theorem bytes4 (a1 a2 : Option Addr) (n1 n2 c1 c2 : Nat) (A1 A2 : Nat → Option Addr) (Len1 Len2 C1 C2 : Nat → Nat) (X1 X2 : Nat → Nat → Int) (r : Int) (w : World)
    (h1 : Mat w a1 n1 A1 Len1 C1 X1) (h2 : Mat w a2 n2 A2 Len2 C2 X2) :
    Calls Try.prog 4 #[.slice a1 n1 c1, .slice a2 n2 c2, .int .i32 r] w fun e w' => Told (Small n1 Len1 n2 Len2) w e w' := by
  have m1 := h1.max
  have m2 := h2.max
  by_cases hn1 : n1 ≤ 1048576
  · go_enter Try.func4, Try.ntmps4
    go_wp2
    go_loop [7, 8] (fun u i => ∃ k s : Nat, k ≤ n1 ∧ s ≤ 1048576 ∧ i = .int .i64 k ∧ u = .int .i64 s ∧ Upto k Len1) (fun _ i => n1 - (intOf i).toNat)
    case atStart => exact ⟨0, n1, Nat.zero_le _, hn1, rfl, rfl, upto_zero _⟩
    case round =>
      obtain ⟨k, s, hk, hs, rfl, rfl, hu⟩ := hrel
      by_cases hlt : k < n1
      · obtain ⟨b, off, rfl, hc⟩ := h1.row hlt
        have hl := h1.lens k hlt
        by_cases q1 : Len1 k ≤ 1048576
        · by_cases q2 : s + Len1 k ≤ 1048576
          · go_wp2
            go_round
            case rel => exact ⟨k + 1, s + Len1 k, by omega, q2, by go_num, by go_num, upto_succ hu q1⟩
            case measure => simp [intOf]; omega
          · go_wp2
            go_ret
            exact told_no
        · go_wp2
          go_ret
          exact told_no
      · by_cases hn2 : n2 ≤ 1048576
        · by_cases hn3 : s + n2 ≤ 1048576
          · obtain rfl : k = n1 := by omega
            go_wp2
            go_loop [7, 9] (fun u i => ∃ k s : Nat, k ≤ n2 ∧ s ≤ 1048576 ∧ i = .int .i64 k ∧ u = .int .i64 s ∧ Upto k Len2) (fun _ i => n2 - (intOf i).toNat)
            case atStart => exact ⟨0, s + n2, Nat.zero_le _, hn3, rfl, by go_num, upto_zero _⟩
            case round =>
              obtain ⟨k2, s2, hk2, hs2, rfl, rfl, hu2⟩ := hrel
              by_cases hlt2 : k2 < n2
              · obtain ⟨b, off, rfl, hc⟩ := h2.row hlt2
                have hl := h2.lens k2 hlt2
                by_cases q1 : Len2 k2 ≤ 1048576
                · by_cases q2 : s2 + Len2 k2 ≤ 1048576
                  · go_wp2
                    go_round
                    case rel => exact ⟨k2 + 1, s2 + Len2 k2, by omega, q2, by go_num, by go_num, upto_succ hu2 q1⟩
                    case measure => simp [intOf]; omega
                  · go_wp2
                    go_ret
                    exact told_no
                · go_wp2
                  go_ret
                  exact told_no
              · obtain rfl : k2 = n2 := by omega
                go_wp2
                go_ret
                exact told_yes ⟨hn1, hu, hn2, hu2⟩
          · go_wp2
            go_ret
            exact told_no
        · go_wp2
          go_ret
          exact told_no
  · go_enter Try.func4, Try.ntmps4
    go_wp2
    go_ret
    exact told_no

/-- the items of the first k lists, and the first i of the k-th, are roles -/
def Dom (n k i : Nat) (Len : Nat → Nat) (X : Nat → Nat → Int) : Prop := ∀ v j, j < Len v → (v < k ∨ (v = k ∧ j < i)) → 0 ≤ X v j ∧ X v j < n
theorem dom_zero (n : Nat) (Len : Nat → Nat) (X : Nat → Nat → Int) : Dom n 0 0 Len X := fun v j _ h => by omega
theorem dom_step {n k i : Nat} {Len : Nat → Nat} {X : Nat → Nat → Int} (h : Dom n k i Len X) (h1 : 0 ≤ X k i) (h2 : X k i < n) : Dom n k (i + 1) Len X := fun v j hj q => by
  by_cases e : v = k ∧ j = i
  · obtain ⟨rfl, rfl⟩ := e; exact ⟨h1, h2⟩
  · exact h v j hj (by omega)
theorem dom_next {n k : Nat} {Len : Nat → Nat} {X : Nat → Nat → Int} (h : Dom n k (Len k) Len X) : Dom n (k + 1) 0 Len X := fun v j hj q => by
  by_cases e : v = k
  · subst e; exact h v j hj (.inr ⟨rfl, hj⟩)
  · exact h v j hj (by omega)

/-- what the domain's test gives -/
def InDomain (n1 n2 : Nat) (r : Int) (Len : Nat → Nat) (X : Nat → Nat → Int) : Prop := n2 = n1 ∧ 0 ≤ r ∧ r < n1 ∧ Dom n1 n1 0 Len X

set_option maxRecDepth 100000 in
set_option maxHeartbeats 2000000 in
theorem domain5 (a1 a2 : Option Addr) (n1 n2 c1 c2 : Nat) (A1 : Nat → Option Addr) (Len1 C1 : Nat → Nat) (X1 : Nat → Nat → Int) (r : Int) (w : World)
    (h1 : Mat w a1 n1 A1 Len1 C1 X1) (hn1 : n1 ≤ 1048576) (_hn2 : n2 ≤ 1048576) (hu : Upto n1 Len1) (hr1 : -2147483648 ≤ r) (hr2 : r ≤ 2147483647) :
    Calls Try.prog 5 #[.slice a1 n1 c1, .slice a2 n2 c2, .int .i32 r] w fun e w' => Told (InDomain n1 n2 r Len1 X1) w e w' := by
  by_cases he : n2 = n1
  · by_cases hr0 : r < 0
    · go_enter Try.func5, Try.ntmps5
      go_wp2
      go_ret
      exact told_no
    · by_cases hr3 : r < n1
      · go_enter Try.func5, Try.ntmps5
        go_wp2
        go_loop [7] (fun i => ∃ k : Nat, k ≤ n1 ∧ i = .int .i64 k ∧ Dom n1 k 0 Len1 X1) (fun i => n1 - (intOf i).toNat)
        case atStart => exact ⟨0, Nat.zero_le _, rfl, dom_zero _ _ _⟩
        case round =>
          obtain ⟨k, hk, rfl, hd⟩ := hrel
          by_cases hlt : k < n1
          · obtain ⟨b, off, rfl, hc⟩ := h1.row hlt
            have hl := hu k hlt
            go_wp2
            go_loop [8] (fun i => ∃ j : Nat, j ≤ Len1 k ∧ i = .int .i64 j ∧ Dom n1 k j Len1 X1) (fun i => Len1 k - (intOf i).toNat)
            case atStart => exact ⟨0, Nat.zero_le _, rfl, hd⟩
            case round =>
              obtain ⟨j, hj, rfl, hd⟩ := hrel
              by_cases hjl : j < Len1 k
              · obtain ⟨b', off', hA, hi⟩ := h1.item hlt hjl
                have hkd := h1.kinds k hlt j hjl
                by_cases q0 : X1 k j < 0
                · go_wp2
                  go_ret
                  exact told_no
                · by_cases q1 : X1 k j < n1
                  · go_wp2
                    go_round
                    case rel => exact ⟨j + 1, by omega, by go_num, dom_step hd (by omega) q1⟩
                    case measure => simp [intOf]; omega
                  · go_wp2
                    go_ret
                    exact told_no
              · obtain rfl : j = Len1 k := by omega
                go_wp2
                go_round
                case rel => exact ⟨k + 1, by omega, by go_num, dom_next hd⟩
                case measure => simp [intOf]; omega
          · obtain rfl : k = n1 := by omega
            go_wp2
            go_ret
            exact told_yes ⟨by omega, by omega, hr3, hd⟩
      · go_enter Try.func5, Try.ntmps5
        go_wp2
        go_ret
        exact told_no
  · go_enter Try.func5, Try.ntmps5
    go_wp2
    go_ret
    exact told_no
end Go.Proofs.Qxb6614821a
