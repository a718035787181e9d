/-
  THE PLAIN LAW: no Go in sight. What a breadth-first search has found when it stands at item i of the list of the k-th role found.
-/
import Derived.Test.Qxb6614821aRows
namespace Go.Proofs.Qxb6614821a

/-- the p-th of a list -/
def ix (xs : List Nat) (p : Nat) : Nat := xs[p]?.getD 0

theorem ix_app_lt {xs : List Nat} {m p : Nat} (h : p < xs.length) : ix (xs ++ [m]) p = ix xs p := by
  unfold ix; rw [List.getElem?_append_left h]
theorem ix_app_eq (xs : List Nat) (m : Nat) : ix (xs ++ [m]) xs.length = m := by
  unfold ix; simp
theorem mem_ix {xs : List Nat} {m : Nat} : m ∈ xs ↔ ∃ p, p < xs.length ∧ ix xs p = m := by
  constructor
  · intro h
    obtain ⟨p, hp, e⟩ := List.mem_iff_getElem.1 h
    exact ⟨p, hp, by unfold ix; rw [List.getElem?_eq_getElem hp]; exact e⟩
  · rintro ⟨p, hp, rfl⟩
    unfold ix
    rw [List.getElem?_eq_getElem hp]
    exact List.getElem_mem hp
theorem ix_mem {xs : List Nat} {p : Nat} (h : p < xs.length) : ix xs p ∈ xs := mem_ix.2 ⟨p, h, rfl⟩

/-- (a, b) stands before (c, d) -/
def Lex (a b c d : Nat) : Prop := a < c ∨ (a = c ∧ b < d)

/-- the first place (k, i) at which the search meets m is (KP, KI) -/
def First (Len : Nat → Nat) (R : Nat → Nat → Nat) (xs : List Nat) (a b m : Nat) : Prop :=
  b < Len (ix xs a) ∧ R (ix xs a) b = m ∧ ∀ k i, Lex k i a b → i < Len (ix xs k) → R (ix xs k) i ≠ m

theorem First.unique {Len : Nat → Nat} {R : Nat → Nat → Nat} {xs : List Nat} {a b c d m : Nat} (h : First Len R xs a b m) (h' : First Len R xs c d m) : a = c ∧ b = d := by
  have h1 : ¬ Lex a b c d := fun hl => h'.2.2 a b hl h.1 h.2.1
  have h2 : ¬ Lex c d a b := fun hl => h.2.2 c d hl h'.1 h'.2.1
  unfold Lex at h1 h2
  omega

/-- WHERE THE SEARCH STANDS at item i of the list of the k-th found. -/
def Bfs (n r : Nat) (Len : Nat → Nat) (R : Nat → Nat → Nat) (xs : List Nat) (k i : Nat) : Prop :=
  0 < xs.length ∧ ix xs 0 = r ∧ (∀ p q, p < q → q < xs.length → ix xs p ≠ ix xs q) ∧ (∀ p, p < xs.length → ix xs p < n) ∧
  (∀ k' i', Lex k' i' k i → k' < xs.length → i' < Len (ix xs k') → R (ix xs k') i' ∈ xs) ∧
  ∃ KP KI : Nat → Nat, (∀ p, 1 ≤ p → p < xs.length → KP p < p ∧ Lex (KP p) (KI p) k i ∧ First Len R xs (KP p) (KI p) (ix xs p)) ∧
    (∀ p, 2 ≤ p → p < xs.length → Lex (KP (p - 1)) (KI (p - 1)) (KP p) (KI p))

section
variable {n r : Nat} {Len : Nat → Nat} {R : Nat → Nat → Nat} {xs : List Nat} {k i : Nat}

theorem bfs_start (h : r < n) : Bfs n r Len R [r] 0 0 := by
  refine ⟨by simp, rfl, fun p q _ _ => by simp at *; omega, fun p hp => ?_, fun k' i' h _ _ => ?_, fun _ => 0, fun _ => 0, fun p _ _ => by simp at *; omega, fun p _ _ => by simp at *; omega⟩
  · simp at hp; subst hp; exact h
  · unfold Lex at h; omega

theorem bfs_seen (h : Bfs n r Len R xs k i) (hm : R (ix xs k) i ∈ xs) : Bfs n r Len R xs k (i + 1) := by
  obtain ⟨h0, h1, h2, h3, h4, KP, KI, h5, h6⟩ := h
  refine ⟨h0, h1, h2, h3, fun k' i' hl hk hi => ?_, KP, KI, fun p a b => ?_, h6⟩
  · by_cases e : k' = k ∧ i' = i
    · obtain ⟨rfl, rfl⟩ := e; exact hm
    · exact h4 k' i' (by unfold Lex at hl ⊢; omega) hk hi
  · obtain ⟨q1, q2, q3⟩ := h5 p a b
    exact ⟨q1, by unfold Lex at q2 ⊢; omega, q3⟩

theorem bfs_next (h : Bfs n r Len R xs k (Len (ix xs k))) : Bfs n r Len R xs (k + 1) 0 := by
  obtain ⟨h0, h1, h2, h3, h4, KP, KI, h5, h6⟩ := h
  refine ⟨h0, h1, h2, h3, fun k' i' hl hk hi => h4 k' i' ?_ hk hi, KP, KI, fun p a b => ?_, h6⟩
  · unfold Lex at hl ⊢
    by_cases e : k' = k
    · subst e; exact .inr ⟨rfl, hi⟩
    · omega
  · obtain ⟨q1, q2, q3⟩ := h5 p a b
    exact ⟨q1, by unfold Lex at q2 ⊢; omega, q3⟩

theorem First.app {a b m m' : Nat} (ha : a < xs.length) (h : First Len R xs a b m) : First Len R (xs ++ [m']) a b m := by
  obtain ⟨h1, h2, h3⟩ := h
  refine ⟨by rwa [ix_app_lt ha], by rwa [ix_app_lt ha], fun k i hl hi => ?_⟩
  have hk : k < xs.length := by unfold Lex at hl; omega
  rw [ix_app_lt hk] at hi ⊢
  exact h3 k i hl hi

theorem bfs_new (h : Bfs n r Len R xs k i) (hk : k < xs.length) (hi : i < Len (ix xs k)) {m : Nat} (hR : R (ix xs k) i = m) (hm : m ∉ xs) (hn : m < n) : Bfs n r Len R (xs ++ [m]) k (i + 1) := by
  obtain ⟨h0, h1, h2, h3, h4, KP, KI, h5, h6⟩ := h
  have hL : (xs ++ [m]).length = xs.length + 1 := by simp
  have new : First Len R (xs ++ [m]) k i m := by
    refine ⟨by rwa [ix_app_lt hk], by rw [ix_app_lt hk]; exact hR, fun k' i' hl hi' => ?_⟩
    have hk' : k' < xs.length := by unfold Lex at hl; omega
    rw [ix_app_lt hk'] at hi' ⊢
    intro e
    exact hm (e ▸ h4 k' i' hl hk' hi')
  refine ⟨by omega, by rw [ix_app_lt h0]; exact h1, fun p q hpq hq => ?_, fun p hp => ?_, fun k' i' hl hk' hi' => ?_, fun p => if p = xs.length then k else KP p, fun p => if p = xs.length then i else KI p, fun p a b => ?_, fun p a b => ?_⟩
  · have hp : p < xs.length := by omega
    rw [ix_app_lt hp]
    by_cases e : q = xs.length
    · subst e; rw [ix_app_eq]; intro e; exact hm (e ▸ ix_mem hp)
    · rw [ix_app_lt (by omega)]; exact h2 p q hpq (by omega)
  · by_cases e : p = xs.length
    · subst e; rw [ix_app_eq]; exact hn
    · rw [ix_app_lt (by omega)]; exact h3 p (by omega)
  · have hk2 : k' < xs.length := by unfold Lex at hl; omega
    rw [ix_app_lt hk2] at hi' ⊢
    by_cases e : k' = k ∧ i' = i
    · obtain ⟨rfl, rfl⟩ := e; rw [hR]; simp
    · exact List.mem_append_left _ (h4 k' i' (by unfold Lex at hl ⊢; omega) hk2 hi')
  · by_cases e : p = xs.length
    · subst e
      simp only [if_true, ix_app_eq]
      exact ⟨hk, by unfold Lex; omega, new⟩
    · simp only [if_neg e]
      obtain ⟨q1, q2, q3⟩ := h5 p a (by omega)
      exact ⟨q1, by unfold Lex at q2 ⊢; omega, by rw [ix_app_lt (by omega)]; exact q3.app (by omega)⟩
  · by_cases e : p = xs.length
    · subst e
      simp only [if_true, if_neg (show ¬ xs.length - 1 = xs.length by omega)]
      exact (h5 (xs.length - 1) (by omega) (by omega)).2.1
    · simp only [if_neg e, if_neg (show ¬ p - 1 = xs.length by omega)]
      exact h6 p a (by omega)

/-- different numbers below n: no more than n of them -/
theorem pigeon : ∀ (n : Nat) (xs : List Nat), (∀ p q, p < q → q < xs.length → ix xs p ≠ ix xs q) → (∀ p, p < xs.length → ix xs p < n) → xs.length ≤ n := by
  intro n xs h2 h3
  have hnd : xs.Nodup := by
    rw [List.nodup_iff_pairwise_ne, List.pairwise_iff_getElem]
    intro p q hp hq hpq e
    refine h2 p q hpq hq ?_
    unfold ix
    rw [List.getElem?_eq_getElem hp, List.getElem?_eq_getElem hq, e]
  have key : ∀ (n : Nat) (xs : List Nat), xs.Nodup → (∀ x ∈ xs, x < n) → xs.length ≤ n := by
    intro n
    induction n with
    | zero =>
      intro xs _ h
      cases xs with
      | nil => simp
      | cons x xs => exact absurd (h x (by simp)) (by omega)
    | succ n ih =>
      intro xs hd h
      have h1 := ih (xs.erase n) (hd.erase n) (fun x hx => by
        have hx' := (hd.mem_erase_iff).1 hx
        have := h x hx'.2
        have := hx'.1
        omega)
      by_cases e : n ∈ xs
      · rw [List.length_erase_of_mem e] at h1
        omega
      · rw [List.erase_of_not_mem e] at h1
        omega
  exact key n xs hnd (fun x hx => by obtain ⟨p, hp, rfl⟩ := mem_ix.1 hx; exact h3 p hp)

theorem Bfs.len (h : Bfs n r Len R xs k i) : xs.length ≤ n := pigeon n xs h.2.2.1 h.2.2.2.1
end
end Go.Proofs.Qxb6614821a
