/-
  THE PLAIN LAW of the seat: texts compared byte for byte, or without regard to ASCII letter case. No Go in sight.
-/
namespace Go.Proofs.Qxb6614662a

/-- an ASCII capital made small -/
def low (c : Int) : Int := if 65 ≤ c ∧ c ≤ 90 then c + 32 else c
/-- a byte as kind k looks at it -/
def look (k : Int) (c : Int) : Int := if k = 0 then low c else c

/-- -1, 0 or 1: two lists of numbers in the order of dictionaries -/
def cmpL : List Int → List Int → Int
  | [], [] => 0
  | [], _ :: _ => -1
  | _ :: _, [] => 1
  | a :: as, b :: bs => if a < b then -1 else if b < a then 1 else cmpL as bs

theorem cmpL_three : ∀ a b : List Int, cmpL a b = -1 ∨ cmpL a b = 0 ∨ cmpL a b = 1
  | [], [] => .inr (.inl rfl)
  | [], _ :: _ => .inl rfl
  | _ :: _, [] => .inr (.inr rfl)
  | a :: as, b :: bs => by
    simp only [cmpL]
    split
    · exact .inl rfl
    · split
      · exact .inr (.inr rfl)
      · exact cmpL_three as bs

theorem cmpL_eq : ∀ {a b : List Int}, cmpL a b = 0 ↔ a = b
  | [], [] => by simp [cmpL]
  | [], _ :: _ => by simp [cmpL]
  | _ :: _, [] => by simp [cmpL]
  | a :: as, b :: bs => by
    simp only [cmpL]
    by_cases h1 : a < b
    · rw [if_pos h1]
      constructor
      · intro h; omega
      · intro h; cases h; omega
    · rw [if_neg h1]
      by_cases h2 : b < a
      · rw [if_pos h2]
        constructor
        · intro h; omega
        · intro h; cases h; omega
      · rw [if_neg h2, cmpL_eq]
        have : a = b := by omega
        subst this
        simp

theorem cmpL_trans : ∀ {a b c : List Int}, cmpL a b < 0 → cmpL b c < 0 → cmpL a c < 0
  | [], [], _, h, _ => by simp [cmpL] at h
  | [], _ :: _, [], _, h => by simp [cmpL] at h
  | [], _ :: _, _ :: _, _, _ => by simp [cmpL]
  | _ :: _, [], _, h, _ => by simp [cmpL] at h
  | _ :: _, _ :: _, [], _, h => by simp [cmpL] at h
  | a :: as, b :: bs, c :: cs, h1, h2 => by
    simp only [cmpL] at h1 h2 ⊢
    by_cases e1 : a < b
    · by_cases e2 : b < c
      · rw [if_pos (by omega)]; omega
      · rw [if_neg e2] at h2
        by_cases e3 : c < b
        · rw [if_pos e3] at h2; omega
        · rw [if_pos (by omega)]; omega
    · rw [if_neg e1] at h1
      by_cases e3 : b < a
      · rw [if_pos e3] at h1; omega
      · rw [if_neg e3] at h1
        by_cases e2 : b < c
        · rw [if_pos (by omega)]; omega
        · rw [if_neg e2] at h2
          by_cases e4 : c < b
          · rw [if_pos e4] at h2; omega
          · rw [if_neg e4] at h2
            rw [if_neg (by omega), if_neg (by omega)]
            exact cmpL_trans h1 h2

/-! ### rising texts; what a search finds -/

/-- each of the n keys is below the next -/
def Rising (n : Nat) (K : Nat → List Int) : Prop := ∀ i, i + 1 < n → cmpL (K i) (K (i + 1)) < 0

theorem Rising.lt {n : Nat} {K : Nat → List Int} (h : Rising n K) {i : Nat} : ∀ {j : Nat}, i < j → j < n → cmpL (K i) (K j) < 0
  | 0, hij, _ => absurd hij (Nat.not_lt_zero _)
  | j + 1, hij, hj => by
    by_cases e : i = j
    · subst e
      exact h i hj
    · exact cmpL_trans (h.lt (j := j) (by omega) (by omega)) (h j hj)

theorem Rising.ne {n : Nat} {K : Nat → List Int} (h : Rising n K) {i j : Nat} (hij : i < j) (hj : j < n) : K i ≠ K j := by
  intro e
  have h1 := h.lt hij hj
  have h2 := cmpL_eq.2 e
  omega

/-- once not below the target, never below it again -/
theorem Rising.stays {n : Nat} {K : Nat → List Int} (h : Rising n K) {x : List Int} {i j : Nat} (hij : i ≤ j) (hj : j < n) (hi : ¬ cmpL (K i) x < 0) : ¬ cmpL (K j) x < 0 := by
  intro hlt
  by_cases e : i = j
  · subst e
    exact hi hlt
  · exact hi (cmpL_trans (h.lt (by omega) hj) hlt)

/-- some key is the target -/
def among (n : Nat) (K : Nat → List Int) (x : List Int) : Bool := (List.range n).any fun i => decide (K i = x)

theorem among_iff {n : Nat} {K : Nat → List Int} {x : List Int} : among n K x = true ↔ ∃ i, i < n ∧ K i = x := by
  simp [among, List.any_eq_true]
theorem among_false {n : Nat} {K : Nat → List Int} {x : List Int} (h : ∀ i, i < n → K i ≠ x) : among n K x = false := by
  cases e : among n K x with
  | false => rfl
  | true =>
    obtain ⟨i, hi, q⟩ := among_iff.1 e
    exact absurd q (h i hi)

/-- THE SEARCH: all before i are below the target, i is not (or there is none): the target is among the keys just if key i is it -/
theorem search_found {n : Nat} {K : Nat → List Int} {x : List Int} {i : Nat} (h : Rising n K) (hi : i ≤ n) (hlo : ∀ k, k < i → cmpL (K k) x < 0) (hhi : ∀ k, i ≤ k → k < n → ¬ cmpL (K k) x < 0) :
    among n K x = (decide (i < n) && decide (cmpL (K i) x = 0)) := by
  by_cases hin : i < n
  · by_cases e : cmpL (K i) x = 0
    · rw [among_iff.2 ⟨i, hin, cmpL_eq.1 e⟩]
      simp [hin, e]
    · rw [among_false ?_]
      · simp [e]
      · intro k hk q
        have q0 := cmpL_eq.2 q
        by_cases h1 : k < i
        · have := hlo k h1
          omega
        · by_cases h2 : k = i
          · subst h2
            exact e q0
          · have h3 := h.lt (show i < k by omega) hk
            rw [q] at h3
            exact hhi i (Nat.le_refl _) hin h3
  · rw [among_false ?_]
    · simp [hin]
    · intro k hk q
      have := hlo k (by omega)
      have q0 := cmpL_eq.2 q
      omega

/-! ### the group -/

/-- does one value of the group match (its key kt) -/
def oneMatch (gn : Bool) (gk : Int) (kt : List Int) (x : List Int) (wk : Int) (wn : Bool) : Bool :=
  if gk = wk then decide (cmpL kt x = 0) == (gn == wn) else gn != wn

def groupMatch (gn : Bool) (gk : Int) (n : Nat) (K : Nat → List Int) (x : List Int) (wk : Int) (wn : Bool) : Bool := (List.range n).any fun i => oneMatch gn gk (K i) x wk wn

/-- what 'matches' answers -/
def matchesB (gn : Bool) (gk : Int) (n : Nat) (K : Nat → List Int) (x : List Int) (wk : Int) (wn : Bool) : Bool :=
  if gk = wk then (if gn = wn then among n K x else (decide (1 < n) || !(decide (K 0 = x)))) else gn != wn

theorem any_same {n : Nat} {p : Nat → Bool} {b : Bool} (hn : 0 < n) (h : ∀ i, i < n → p i = b) : (List.range n).any p = b := by
  cases b with
  | true => exact List.any_eq_true.2 ⟨0, List.mem_range.2 hn, h 0 hn⟩
  | false =>
    rw [List.any_eq_false]
    intro i hi
    rw [h i (List.mem_range.1 hi)]
    simp

/-- THE PLAIN LAW -/
theorem matches_group {gn : Bool} {gk : Int} {n : Nat} {K : Nat → List Int} {x : List Int} {wk : Int} {wn : Bool} (hn : 0 < n) (h : Rising n K) : matchesB gn gk n K x wk wn = groupMatch gn gk n K x wk wn := by
  unfold matchesB groupMatch oneMatch
  by_cases hk : gk = wk
  · simp only [if_pos hk]
    by_cases hg : gn = wn
    · rw [if_pos hg]
      subst hg
      simp only [beq_self_eq_true]
      unfold among
      congr 1
      funext i
      by_cases e : K i = x
      · simp [e, cmpL_eq]
      · have : ¬ cmpL (K i) x = 0 := fun q => e (cmpL_eq.1 q)
        simp [e, this]
    · rw [if_neg hg]
      have hb : (gn == wn) = false := by simpa using hg
      simp only [hb]
      by_cases h1 : 1 < n
      · have hex : ∃ i, i < n ∧ K i ≠ x := by
          by_cases e : K 0 = x
          · exact ⟨1, h1, fun q => h.ne (show 0 < 1 by omega) h1 (e.trans q.symm)⟩
          · exact ⟨0, hn, e⟩
        obtain ⟨i, hi, q⟩ := hex
        have : ((List.range n).any fun i => decide (cmpL (K i) x = 0) == false) = true := List.any_eq_true.2 ⟨i, List.mem_range.2 hi, by simp; exact fun e => q (cmpL_eq.1 e)⟩
        rw [this]
        simp [h1]
      · obtain rfl : n = 1 := by omega
        rw [any_same (b := decide (cmpL (K 0) x = 0) == false) (by omega) (fun i hi => by
          obtain rfl : i = 0 := by omega
          rfl)]
        by_cases e : K 0 = x
        · simp [e, cmpL_eq.2 rfl]
        · have : ¬ cmpL (K 0) x = 0 := fun q => e (cmpL_eq.1 q)
          simp [e, this]
  · simp only [if_neg hk]
    exact (any_same hn (fun _ _ => rfl)).symm

/-- flipping both negations changes nothing -/
theorem matches_flip {gn : Bool} {gk : Int} {n : Nat} {K : Nat → List Int} {x : List Int} {wk : Int} {wn : Bool} : matchesB (!gn) gk n K x wk (!wn) = matchesB gn gk n K x wk wn := by
  unfold matchesB
  cases gn <;> cases wn <;> simp
end Go.Proofs.Qxb6614662a
