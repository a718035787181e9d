/-
  WHAT THE LAW RECKONS FROM THE LIST IT IS GIVEN: places and keys; and what they come to where the list is a search's.
-/
import Derived.Test.Qxb6614821aPlain
namespace Go.Proofs.Qxb6614821a

/-- F tells the place of each of the first k; -1 of the rest -/
def PosOk (xs : List Nat) (k : Nat) (F : Nat → Int) : Prop := ∀ j, (F j = -1 ∧ ∀ p, p < k → ix xs p ≠ j) ∨ ∃ p : Nat, p < k ∧ ix xs p = j ∧ F j = p

theorem pos_start (xs : List Nat) : PosOk xs 0 (fun _ => -1) := fun _ => .inl ⟨rfl, fun _ hp => absurd hp (Nat.not_lt_zero _)⟩

theorem pos_free {xs : List Nat} {k : Nat} {F : Nat → Int} (h : PosOk xs k F) (hd : ∀ p q, p < q → q < xs.length → ix xs p ≠ ix xs q) (hk : k < xs.length) : F (ix xs k) = -1 := by
  rcases h (ix xs k) with q | ⟨p, hp, e, _⟩
  · exact q.1
  · exact absurd e (hd p k hp hk)

theorem pos_step {xs : List Nat} {k : Nat} {F : Nat → Int} (h : PosOk xs k F) : PosOk xs (k + 1) (fun j => if j = ix xs k then (k : Int) else F j) := by
  intro j
  by_cases e : j = ix xs k
  · subst e
    exact .inr ⟨k, by omega, rfl, by simp⟩
  · simp only [if_neg e]
    rcases h j with ⟨q1, q2⟩ | ⟨p, hp, e1, e2⟩
    · refine .inl ⟨q1, fun p hp => ?_⟩
      by_cases ep : p = k
      · subst ep; exact fun q => e q.symm
      · exact q2 p (by omega)
    · exact .inr ⟨p, by omega, e1, e2⟩

theorem pos_found {xs : List Nat} {F : Nat → Int} (h : PosOk xs xs.length F) {m : Nat} (hm : m ∈ xs) : ∃ p : Nat, p < xs.length ∧ F m = p := by
  rcases h m with ⟨_, q⟩ | ⟨p, hp, _, e⟩
  · obtain ⟨p, hp, e⟩ := mem_ix.1 hm
    exact absurd e (q p hp)
  · exact ⟨p, hp, e⟩

/-- F and G tell the first place (k', i') ahead of (k, i) at which a role is listed; F is -1 where it is not -/
def KeyOk (Len : Nat → Nat) (R : Nat → Nat → Nat) (xs : List Nat) (k i : Nat) (F G : Nat → Int) : Prop :=
  ∀ m, (F m = -1 ∧ ∀ k' i', Lex k' i' k i → k' < xs.length → i' < Len (ix xs k') → R (ix xs k') i' ≠ m) ∨
    ∃ a b : Nat, F m = a ∧ G m = b ∧ Lex a b k i ∧ a < xs.length ∧ First Len R xs a b m

section
variable {Len : Nat → Nat} {R : Nat → Nat → Nat} {xs : List Nat} {k i : Nat} {F G : Nat → Int}

theorem key_start (G : Nat → Int) : KeyOk Len R xs 0 0 (fun _ => -1) G := fun _ => .inl ⟨rfl, fun k' i' h => by unfold Lex at h; omega⟩

theorem key_had (h : KeyOk Len R xs k i F G) (hm : F (R (ix xs k) i) ≠ -1) : KeyOk Len R xs k (i + 1) F G := by
  intro m
  rcases h m with ⟨q1, q2⟩ | ⟨a, b, e1, e2, hl, ha, hf⟩
  · refine .inl ⟨q1, fun k' i' hl hk hi => ?_⟩
    by_cases e : k' = k ∧ i' = i
    · obtain ⟨rfl, rfl⟩ := e
      rintro rfl
      exact hm q1
    · exact q2 k' i' (by unfold Lex at hl ⊢; omega) hk hi
  · exact .inr ⟨a, b, e1, e2, by unfold Lex at hl ⊢; omega, ha, hf⟩

theorem key_new (h : KeyOk Len R xs k i F G) (hk : k < xs.length) (hi : i < Len (ix xs k)) (hm : F (R (ix xs k) i) = -1) :
    KeyOk Len R xs k (i + 1) (fun j => if j = R (ix xs k) i then (k : Int) else F j) (fun j => if j = R (ix xs k) i then (i : Int) else G j) := by
  intro m
  by_cases e : m = R (ix xs k) i
  · subst e
    refine .inr ⟨k, i, by simp, by simp, by unfold Lex; omega, hk, hi, rfl, fun k' i' hl hi' => ?_⟩
    rcases h (R (ix xs k) i) with ⟨_, q2⟩ | ⟨a, b, e1, _⟩
    · exact q2 k' i' hl (by unfold Lex at hl; omega) hi'
    · rw [hm] at e1
      omega
  · simp only [if_neg e]
    rcases h m with ⟨q1, q2⟩ | ⟨a, b, e1, e2, hl, ha, hf⟩
    · refine .inl ⟨q1, fun k' i' hl hk' hi' => ?_⟩
      by_cases e' : k' = k ∧ i' = i
      · obtain ⟨rfl, rfl⟩ := e'
        exact fun q => e q.symm
      · exact q2 k' i' (by unfold Lex at hl ⊢; omega) hk' hi'
    · exact .inr ⟨a, b, e1, e2, by unfold Lex at hl ⊢; omega, ha, hf⟩

theorem key_next (h : KeyOk Len R xs k (Len (ix xs k)) F G) : KeyOk Len R xs (k + 1) 0 F G := by
  intro m
  rcases h m with ⟨q1, q2⟩ | ⟨a, b, e1, e2, hl, ha, hf⟩
  · refine .inl ⟨q1, fun k' i' hl hk hi => q2 k' i' ?_ hk hi⟩
    unfold Lex at hl ⊢
    by_cases e : k' = k
    · subst e; exact .inr ⟨rfl, hi⟩
    · omega
  · exact .inr ⟨a, b, e1, e2, by unfold Lex at hl ⊢; omega, ha, hf⟩

/-- the keys of a search's list -/
def Rising (xs : List Nat) (F G : Nat → Int) (a b : Nat → Nat) : Prop :=
  (∀ p, 1 ≤ p → p < xs.length → F (ix xs p) = a p ∧ G (ix xs p) = b p ∧ a p < p) ∧ (∀ p, 2 ≤ p → p < xs.length → Lex (a (p - 1)) (b (p - 1)) (a p) (b p))

theorem keys_rise {n r : Nat} (hb : Bfs n r Len R xs xs.length 0) (hk : KeyOk Len R xs xs.length 0 F G) : ∃ a b, Rising xs F G a b := by
  obtain ⟨_, _, _, _, _, KP, KI, h5, h6⟩ := hb
  refine ⟨KP, KI, fun p h1 h2 => ?_, h6⟩
  obtain ⟨q1, q2, q3⟩ := h5 p h1 h2
  rcases hk (ix xs p) with ⟨_, e⟩ | ⟨a, b, e1, e2, hl, ha, hf⟩
  · exact absurd q3.2.1 (e _ _ q2 (by omega) q3.1)
  · obtain ⟨rfl, rfl⟩ := hf.unique q3
    exact ⟨e1, e2, q1⟩
end
end Go.Proofs.Qxb6614821a
