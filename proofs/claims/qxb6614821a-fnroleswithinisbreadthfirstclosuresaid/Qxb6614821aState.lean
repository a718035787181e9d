/-
  THE ITERATOR's STATE, and how each step of it hands the state on.
-/
import Derived.Test.Qxb6614821aRange
namespace Go.Proofs.Qxb6614821a
open Go.RowKit Go.Shelf

/-- roles as the values of a row -/
def vals (xs : List Nat) : List Value := xs.map (fun m : Nat => Value.int .i32 (m : Int))

/-- A CELL THAT NOBODY WRITES: below n₀, and not the map. -/
def Fix (n₀ rs : Nat) (W : World) (b o : Nat) (v : Value) : Prop := W.cell? ⟨b, o, none⟩ = some v ∧ b < n₀ ∧ b ≠ rs

theorem Fix.cell {n₀ rs : Nat} {W : World} {b o : Nat} {v : Value} (h : Fix n₀ rs W b o v) : W.cell? ⟨b, o, none⟩ = some v := h.1

/-- what the call under way may turn: the map, and blocks from n₀ on -/
def Mine (n₀ rs : Nat) (k : Nat) : Prop := n₀ ≤ k ∨ k = rs

theorem Fix.turn {n₀ rs : Nat} {W W' : World} {b o : Nat} {v : Value} (h : Fix n₀ rs W b o v) (ht : Turn (Mine n₀ rs) W W') : Fix n₀ rs W' b o v := by
  refine ⟨?_, h.2⟩
  have hlt : b < W.heap.size := World.block_lt_of_cell? W ⟨b, o, none⟩ h.1
  rw [← h.1]
  exact World.cell?_of_block (a := ⟨b, o, none⟩) (ht.block b hlt (fun hz => by have := h.2; unfold Mine at hz; omega))

/-- WHAT THE ITERATOR READS: its captured variables, the configuration, the lists. -/
structure Env (n₀ rs b1 b2 b3 b4 bc bR bA n r : Nat) (A A' : Nat → Option Addr) (Len C L' C' : Nat → Nat) (R : Nat → Nat → Nat) (W : World) : Prop where
  seen : Fix n₀ rs W b1 0 (.map (some rs))
  p : Fix n₀ rs W b2 0 (.int .i32 (r : Int))
  c : Fix n₀ rs W b3 0 (.pointer (some ⟨bc, 0, none⟩))
  only : Fix n₀ rs W b4 0 (.bool true)
  roles : Fix n₀ rs W bc 8 (.slice (some ⟨bR, 0, none⟩) n n)
  accts : Fix n₀ rs W bc 9 (.slice (some ⟨bA, 0, none⟩) n n)
  lists : ∀ v, v < n → Fix n₀ rs W bR v (.slice (A v) (Len v) (C v))
  others : ∀ v, v < n → Fix n₀ rs W bA v (.slice (A' v) (L' v) (C' v))
  items : ∀ v, v < n → ∃ b off, (Len v = 0 ∨ A v = some ⟨b, off, none⟩) ∧ ∀ j, j < Len v → Fix n₀ rs W b (off + j) (.int .i32 (R v j : Int))

section
variable {n₀ rs b1 b2 b3 b4 bc bR bA n r : Nat} {A A' : Nat → Option Addr} {Len C L' C' : Nat → Nat} {R : Nat → Nat → Nat}

theorem Env.turn {W W' : World} (h : Env n₀ rs b1 b2 b3 b4 bc bR bA n r A A' Len C L' C' R W) (ht : Turn (Mine n₀ rs) W W') : Env n₀ rs b1 b2 b3 b4 bc bR bA n r A A' Len C L' C' R W' :=
  ⟨h.seen.turn ht, h.p.turn ht, h.c.turn ht, h.only.turn ht, h.roles.turn ht, h.accts.turn ht, fun v hv => (h.lists v hv).turn ht, fun v hv => (h.others v hv).turn ht, fun v hv => by
    obtain ⟨b, off, h1, h2⟩ := h.items v hv
    exact ⟨b, off, h1, fun j hj => (h2 j hj).turn ht⟩⟩
end

/-- THE STATE: pre has been handed on; vf owns ys; the map holds zs. -/
structure St (n₀ rs B l D : Nat) (lp : Loop) (W0 W : World) (v : Value) (pre : List Nat) (vf : Value) (ys zs : List Nat) : Prop where
  coll : CollR n₀ B l D lp v pre W
  seen : SeenIs W rs zs
  row : W.ownsRow n₀ 29 1 vf ys.length (vals ys)
  apart : vf.ownBlock = none ∨ vf.ownBlock ≠ v.ownBlock
  big : n₀ ≤ W.heap.size
  low : rs < n₀ ∧ n₀ ≤ B
  turn : Turn (Mine n₀ rs) W0 W

section
variable {n₀ rs B l D : Nat} {lp : Loop} {W0 W : World} {v : Value} {pre : List Nat} {vf : Value} {ys zs : List Nat}

theorem CollR.kept {W' : World} {row : Option Nat} (h : CollR n₀ B l D lp v pre W) (hg : W.grownBy W' row) (hB : some B ≠ row) (hl : some l ≠ row) (hD : some D ≠ row) (hv : v.ownBlock = none ∨ v.ownBlock ≠ row) : CollR n₀ B l D lp v pre W' := by
  refine ⟨h.1.kept hg hB hv, ?_, ?_⟩
  · exact (hg.block l (Array.getElem?_eq_some_iff.1 h.2.1).1 hl).trans h.2.1
  · exact (hg.block D (Array.getElem?_eq_some_iff.1 h.2.2).1 hD).trans h.2.2

/-- a block that is cells of another type than the box, or a row, is neither the record nor the block for deferred calls -/
theorem CollR.not_cells {b : Nat} {cs : Array Value} {t : TypeId} {fr : Nat × Nat} (h : CollR n₀ B l D lp v pre W) (hb : W.heap[b]? = some (.cells cs t fr)) : l ≠ b ∧ D ≠ b := by
  constructor
  · rintro rfl; have := h.2.1; rw [hb] at this; cases this
  · rintro rfl; have := h.2.2; rw [hb] at this; cases this

theorem ownBlock_cells {W : World} {base : Nat} {e : TypeId} {k : Nat} {v : Value} {xs : List Value} (h : W.ownsRow base e 1 v k xs) {b : Nat} (hb : v.ownBlock = some b) : base ≤ b ∧ ∃ cur, W.heap[b]? = some (.cells cur e (0, 0)) := by
  rcases h.2 with ⟨rfl, _⟩ | ⟨g, cap, cur, rfl, hbase, hgb, _⟩
  · cases hb
  · obtain rfl : g = b := by simpa [Value.ownBlock] using hb
    exact ⟨hbase, cur, hgb⟩

theorem St.alloc (h : St n₀ rs B l D lp W0 W v pre vf ys zs) (o : Obj) : St n₀ rs B l D lp W0 (W.alloc o) v pre vf ys zs :=
  ⟨h.coll.kept (World.grownBy_alloc W o none) (by simp) (by simp) (by simp) (by cases v.ownBlock <;> simp), h.seen.of_block (Below.heap_alloc W o rs h.seen.lt), h.row.alloc o, h.apart, by have := h.big; simp; omega, h.low, h.turn.trans (Turn.alloc _ W o)⟩

theorem St.drew (h : St n₀ rs B l D lp W0 W v pre vf ys zs) : St n₀ rs B l D lp W0 W.drew v pre vf ys zs :=
  ⟨h.coll, h.seen, h.row, h.apart, h.big, h.low, h.turn.trans (Turn.drew _ W)⟩

/-- the map is stored into -/
theorem St.stored (h : St n₀ rs B l D lp W0 W v pre vf ys zs) {W' : World} {zs' : List Nat} (hs : SeenIs W' rs zs') (hg : W.grownBy W' (some rs)) : St n₀ rs B l D lp W0 W' v pre vf ys zs' := by
  have nr : ∀ (u : Value) (k : Nat) (xs : List Value), W.ownsRow n₀ 29 1 u k xs → u.ownBlock = none ∨ u.ownBlock ≠ some rs := by
    intro u k xs hu
    cases e : u.ownBlock with
    | none => exact .inl rfl
    | some b =>
      have := (ownBlock_cells hu e).1
      have := h.low.1
      exact .inr (by intro e'; cases e'; omega)
  refine ⟨h.coll.kept hg ?_ ?_ ?_ (nr _ _ _ h.coll.1.row), hs, h.row.kept hg (nr _ _ _ h.row), h.apart, Nat.le_trans h.big hg.size, h.low, h.turn.trans (Turn.of_grownBy hg (fun k e => by cases e; exact .inr rfl))⟩
  · have := h.low; intro e; cases e; omega
  · intro e; cases e; exact h.seen.ne h.coll.2.1 (by intro _ _ e; cases e) rfl
  · intro e; cases e; exact h.seen.ne h.coll.2.2 (by intro _ _ e; cases e) rfl

/-- the iterator's own row is appended to -/
theorem St.appended (h : St n₀ rs B l D lp W0 W v pre vf ys zs) {W' : World} {vf' : Value} {ys' : List Nat} (hr : W'.ownsRow n₀ 29 1 vf' ys'.length (vals ys')) (hg : W.grownBy W' vf.ownBlock) (hat : vf'.ownBlock = vf.ownBlock ∨ vf'.ownBlock = some W.heap.size) : St n₀ rs B l D lp W0 W' v pre vf' ys' zs := by
  have hB : some B ≠ vf.ownBlock := h.coll.1.box.not_row (by decide) h.row
  have hrow : ∀ b, vf.ownBlock = some b → n₀ ≤ b ∧ ∃ cur, W.heap[b]? = some (.cells cur 29 (0, 0)) := fun b e => ownBlock_cells h.row e
  refine ⟨h.coll.kept hg hB ?_ ?_ ?_, ?_, hr, ?_, Nat.le_trans h.big hg.size, h.low, h.turn.trans (Turn.of_grownBy hg (fun k e => .inl (hrow k e).1))⟩
  · intro e
    obtain ⟨_, cur, hc⟩ := hrow l e.symm
    exact (h.coll.not_cells hc).1 rfl
  · intro e
    obtain ⟨_, cur, hc⟩ := hrow D e.symm
    exact (h.coll.not_cells hc).2 rfl
  · rcases h.apart with e | e
    · rw [e]
      cases v.ownBlock <;> simp
    · exact .inr (fun q => e q.symm)
  · refine h.seen.of_block (hg.block rs h.seen.lt ?_)
    intro e
    have := (hrow rs e.symm).1
    have := h.low
    omega
  · rcases hat with e | e
    · rw [e]; exact h.apart
    · rw [e]
      refine .inr ?_
      intro q
      have := (h.coll.1.row.lt W.heap.size q.symm).2
      omega

/-- a round has run -/
theorem St.yielded (h : St n₀ rs B l D lp W0 W v pre vf ys zs) (hl : n₀ ≤ l) {W' : World} {v' : Value} {pre' : List Nat} (hc : CollR n₀ B l D lp v' pre' W') (ht : Turn (fun k => k = B ∨ k = l ∨ some k = v.ownBlock) W W')
    (hv : v'.ownBlock = v.ownBlock ∨ ∃ k, v'.ownBlock = some k ∧ W.heap.size ≤ k) : St n₀ rs B l D lp W0 W' v' pre' vf ys zs := by
  have hvb : ∀ b, v.ownBlock = some b → n₀ ≤ b := fun b e => (ownBlock_cells h.coll.1.row e).1
  refine ⟨hc, ?_, ?_, ?_, Nat.le_trans h.big ht.size, h.low, h.turn.trans (ht.mono (fun k _ hz => ?_))⟩
  · refine h.seen.of_block (ht.block rs h.seen.lt ?_)
    have := h.low
    rintro (e | e | e)
    · omega
    · omega
    · have := hvb rs e.symm
      omega
  · rcases h.row.2 with ⟨rfl, h0⟩ | ⟨g, cap, cur, rfl, hbase, hgb, h1, h2, h3, h4⟩
    · exact ⟨h.row.1, .inl ⟨rfl, h0⟩⟩
    · have hglt : g < W.heap.size := (Array.getElem?_eq_some_iff.1 hgb).1
      refine ⟨h.row.1, .inr ⟨g, cap, cur, rfl, hbase, (ht.block g hglt ?_).trans hgb, h1, h2, h3, h4⟩⟩
      rintro (rfl | rfl | e)
      · exact h.coll.1.box.not_row (by decide) h.row rfl
      · exact (h.coll.not_cells hgb).1 rfl
      · rcases h.apart with q | q
        · cases q
        · exact q (e)
  · rcases hv with e | ⟨k, e, hk⟩
    · rw [e]; exact h.apart
    · rw [e]
      refine .inr ?_
      intro q
      have := (h.row.lt k q).2
      omega
  · have := h.low
    rcases hz with e | e | e
    · exact .inl (by omega)
    · exact .inl (by omega)
    · exact .inl (hvb k e.symm)
end
end Go.Proofs.Qxb6614821a
