/-
  A RANGE OVER AN ITERATOR THAT KEEPS ROWS OF ITS OWN, THE LOOP's BODY COLLECTING INTO A BOXED SLICE: two parties' rows kept apart by their blocks.
-/
import Derived.Test.Qxb6614821aSeen
namespace Go.Proofs.Qxb6614821a
open Go.RowKit Go.Shelf
attribute [local go_sem] Oper.semAt_some

/-- WHAT Z DOES NOT NAME LIES AS IT LAY. -/
structure Turn (Z : Nat → Prop) (w w' : World) : Prop where
  os : w'.os = w.os
  tape : w'.tape = w.tape
  output : w'.output = w.output
  size : w.heap.size ≤ w'.heap.size
  block : ∀ k, k < w.heap.size → ¬ Z k → w'.heap[k]? = w.heap[k]?

theorem Turn.refl (Z : Nat → Prop) (w : World) : Turn Z w w := ⟨rfl, rfl, rfl, Nat.le_refl _, fun _ _ _ => rfl⟩
theorem Turn.trans {Z : Nat → Prop} {a b c : World} (h : Turn Z a b) (k : Turn Z b c) : Turn Z a c :=
  ⟨k.os.trans h.os, k.tape.trans h.tape, k.output.trans h.output, Nat.le_trans h.size k.size, fun i hi hz => (k.block i (Nat.lt_of_lt_of_le hi h.size) hz).trans (h.block i hi hz)⟩
theorem Turn.mono {Z Z' : Nat → Prop} {a b : World} (h : Turn Z a b) (hz : ∀ k, k < a.heap.size → Z k → Z' k) : Turn Z' a b :=
  ⟨h.os, h.tape, h.output, h.size, fun i hi hn => h.block i hi (fun q => hn (hz i hi q))⟩
theorem Turn.of_grownBy {Z : Nat → Prop} {a b : World} {row : Option Nat} (h : a.grownBy b row) (hz : ∀ k, row = some k → Z k) : Turn Z a b :=
  ⟨h.os, h.tape, h.output, h.size, fun i hi hn => h.block i hi (fun e => hn (hz i e.symm))⟩
theorem Turn.alloc (Z : Nat → Prop) (w : World) (o : Obj) : Turn Z w (w.alloc o) := Turn.of_grownBy (World.grownBy_alloc w o none) (fun _ h => by cases h)
theorem Turn.putObj {Z : Nat → Prop} (w : World) {l : Nat} (o : Obj) (h : Z l) : Turn Z w (w.putObj l o) := Turn.of_grownBy (grownBy_putObj' w l o) (fun k e => by cases e; exact h)
theorem Turn.drew (Z : Nat → Prop) (w : World) : Turn Z w w.drew := ⟨rfl, rfl, rfl, Nat.le_refl _, fun _ _ _ => rfl⟩
theorem Turn.setCell {Z : Nat → Prop} (w : World) {b : Nat} (v : Value) (h : Z b) : Turn Z w (w.setCell ⟨b, 0, none⟩ v) := Turn.of_grownBy (grownBy_setCell' w b v) (fun k e => by cases e; exact h)

/-- THE COLLECTOR's STATE: box B holds a slice that owns what has come. -/
def Coll (n₀ B : Nat) (v : Value) (pre : List Nat) (W : World) : Prop :=
  Boxed W B 27 v ∧ W.ownsRow n₀ 29 1 v pre.length (pre.map (fun m : Nat => Value.int .i32 (m : Int)))

theorem Coll.box {n₀ B : Nat} {v : Value} {pre : List Nat} {W : World} (h : Coll n₀ B v pre W) : Boxed W B 27 v := h.1
theorem Coll.row {n₀ B : Nat} {v : Value} {pre : List Nat} {W : World} (h : Coll n₀ B v pre W) : W.ownsRow n₀ 29 1 v pre.length (pre.map (fun m : Nat => Value.int .i32 (m : Int))) := h.2

theorem Coll.kept {n₀ B : Nat} {v : Value} {pre : List Nat} {W W' : World} {row : Option Nat} (h : Coll n₀ B v pre W) (hg : W.grownBy W' row) (h1 : some B ≠ row) (h2 : v.ownBlock = none ∨ v.ownBlock ≠ row) : Coll n₀ B v pre W' :=
  ⟨h.1.kept hg h1, h.2.kept hg h2⟩

theorem Coll.alloc {n₀ B : Nat} {v : Value} {pre : List Nat} {W : World} (h : Coll n₀ B v pre W) (o : Obj) : Coll n₀ B v pre (W.alloc o) :=
  ⟨h.1.alloc o, h.2.alloc o⟩

theorem Coll.putObj {n₀ B : Nat} {v : Value} {pre : List Nat} {W : World} {l : Nat} {o : Obj} (h : Coll n₀ B v pre W) (o' : Obj) (hl : W.heap[l]? = some o) (ho : o.isCells = false) : Coll n₀ B v pre (W.putObj l o') := by
  refine ⟨h.1.kept (grownBy_putObj' W l o') ?_, ownsRow_putObj h.2 o' hl ho⟩
  intro e
  obtain rfl : B = l := by simpa using e
  have h1 : W.heap[B]? = some (.cells #[v] 27 (0, 0)) := h.1
  rw [h1] at hl
  cases hl
  cases ho

/-- what a round hands on -/
def Next (n₀ B : Nat) (v : Value) (xs : List Nat) (W W' : World) (v' : Value) : Prop :=
  Coll n₀ B v' xs W' ∧ Turn (fun k => k = B ∨ some k = v.ownBlock) W W' ∧ (v'.ownBlock = v.ownBlock ∨ ∃ k, v'.ownBlock = some k ∧ W.heap.size ≤ k)

/-- how the body of a round may be left: off its end alone -/
def collPost (n₀ B : Nat) (v : Value) (xs : List Nat) (W : World) : Exit → Act → World → Prop
  | .normal, _, W' => ∃ v', Next n₀ B v xs W W' v'
  | _, _, _ => False

/-- the collector's state with the loop's record and the block for deferred calls -/
def CollR (n₀ B l D : Nat) (lp : Loop) (v : Value) (pre : List Nat) (W : World) : Prop :=
  Coll n₀ B v pre W ∧ W.heap[l]? = some (.loop lp) ∧ W.heap[D]? = some (.deferred (some []))

/-- WHAT A ROUND PROMISES THE ITERATOR. -/
def Round (P : Program) (m n₀ B l D : Nat) (lp : Loop) (N : Nat) : Prop :=
  ∀ v pre (x : Nat) W, CollR n₀ B l D lp v pre W → pre.length < N → YieldAt Fence.wide m P l #[.int .i32 (x : Int)] W fun e W' =>
    e = .returned (.bool true) ∧ ∃ v', CollR n₀ B l D lp v' (pre ++ [x]) W' ∧ Turn (fun k => k = B ∨ k = l ∨ some k = v.ownBlock) W W' ∧ (v'.ownBlock = v.ownBlock ∨ ∃ k, v'.ownBlock = some k ∧ W.heap.size ≤ k)

theorem wpIn_rangeFunc_coll {P : Program} {n : Nat} {g : Operand} {ps : Array Tmp} {assign body : Code} {Q : Exit → Act → World → Prop} {a : Act} {w : World}
    {gf : Nat} {lb : Array Value} (hg : a.eval g = .func (.func gf) #[] lb) (eg : ∀ args w, (callFunc gf args).run P w = .ok (.enter gf args) w)
    (hps : ps.size = 1) {N n₀ B : Nat} {v0 : Value} (h0 : Coll n₀ B v0 [] w) (S : List Nat → World → Prop) (hS : ∀ xs W o, S xs W → S xs (W.putObj (w.heap.size + 1) o))
    (hseq : ∀ (lp : Loop), CollR n₀ B (w.heap.size + 1) w.heap.size lp v0 [] ((w.alloc (.deferred (some []))).alloc (.loop lp)) → Round P (n - 1 - 1) n₀ B (w.heap.size + 1) w.heap.size lp N →
      CallsIn Fence.wide (n - 1) P gf (#[.func (.yield (w.heap.size + 1)) #[] #[]] ++ lb) ((w.alloc (.deferred (some []))).alloc (.loop lp)) fun e W' =>
        (∃ u, e = .returned u) ∧ ∃ v xs, S xs W' ∧ CollR n₀ B (w.heap.size + 1) w.heap.size lp v xs W')
    (a₁ : Nat → Act)
    (hassign : ∀ (l x : Nat) (W : World) (K : Act → World → Prop), K (a₁ x) W →
      assign.wpIn (Fence.wide.inRound l) (n - 1 - 1) P (Exit.then K (fun _ _ _ => False)) { tmps := (ps.zip #[Value.int .i32 (x : Int)]).foldl (fun t (p, v) => t.setIfInBounds p v) a.tmps, defers := [] } W)
    (hbody : ∀ (l : Nat) (v : Value) (pre : List Nat) (x : Nat) (W : World), Coll n₀ B v pre W → pre.length < N → w.heap.size ≤ W.heap.size → body.wpIn (Fence.wide.inRound l) (n - 1 - 1) P (collPost n₀ B v (pre ++ [x]) W) (a₁ x) W)
    (hdone : ∀ (v : Value) (xs : List Nat) (W : World), S xs W → Coll n₀ B v xs W → W.heap[w.heap.size]? = some (.deferred (some [])) → Q .normal { a with defers := { target := .collected w.heap.size, args := #[] } :: a.defers } W) :
    (Code.rangeFunc g ps assign body).wpIn Fence.wide n P Q a w := by
  refine wpIn_rangeFunc ?_
  intro fn hfn
  obtain ⟨lp, hlp⟩ : ∃ lp : Loop, lp = { state := .ready, pending := none, fn, tmps := a.tmps, params := ps, assign, body, defers := w.heap.size } := ⟨_, rfl⟩
  obtain ⟨W1, hW1⟩ : ∃ W1, (w.alloc (.deferred (some []))).alloc (.loop lp) = W1 := ⟨_, rfl⟩
  have hL1 : W1.heap[w.heap.size + 1]? = some (.loop lp) := by
    rw [← hW1]; have := World.alloc_heap_new (w.alloc (.deferred (some []))) (.loop lp); rwa [World.size_alloc] at this
  have hK1 : W1.heap[w.heap.size]? = some (.deferred (some [])) := by
    rw [← hW1]; exact (Below.heap_alloc _ _ _ (by simp)).trans (World.alloc_heap_new w _)
  have hC1 : Coll n₀ B v0 [] W1 := by rw [← hW1]; exact (h0.alloc _).alloc _
  have hs := hseq lp
  rw [hW1] at hs
  refine ⟨w.heap.size + 1, [{ target := .collected w.heap.size, args := #[] }], W1, { target := .fn (.func gf) lb, args := #[.func (.yield (w.heap.size + 1)) #[] #[]] }, W1, gf,
    #[.func (.yield (w.heap.size + 1)) #[] #[]] ++ lb, W1, ?_, ?_, ?_, ?_, fun h => (by cases h), ?_⟩
  · rw [← hW1, hlp]; exact run_enterLoop_outer _ _ _ _ _
  · simp only [resolve, hg]
    simp [go_sem]
  · intro f' _; trivial
  · simp [invoke, go_sem, eg]
  · refine (hs ⟨hC1, hL1, hK1⟩ ?_).mono ?_
    · -- ONE ROUND
      rintro v pre x W ⟨hc, hl, hk⟩ hlen
      have hlt : w.heap.size + 1 < W.heap.size := (Array.getElem?_eq_some_iff.1 hl).1
      have hy := run_yield (P := P) (args := #[Value.int .i32 (x : Int)]) hl (by rw [hlp]; exact hps.symm)
      rw [hlp] at hy
      refine ⟨fn, _, assign, body, hy, roundIn_of_wpIn hfn (hassign _ x W _ ⟨_, run_beginRound hl (by rw [hlp]), ?_⟩)⟩
      obtain ⟨W2, hW2⟩ : ∃ W2, W.putObj (w.heap.size + 1) (.loop { lp with state := .busy }) = W2 := ⟨_, rfl⟩
      rw [hW2]
      have hl2 : W2.heap[w.heap.size + 1]? = some (.loop { lp with state := .busy }) := by rw [← hW2]; exact World.putObj_heap_same hlt
      have hk2 : W2.heap[w.heap.size]? = some (.deferred (some [])) := by rw [← hW2]; exact (World.putObj_heap_other (by omega)).trans hk
      have hc2 : Coll n₀ B v pre W2 := by rw [← hW2]; exact hc.putObj _ hl rfl
      have hs2 : W2.heap.size = W.heap.size := by rw [← hW2]; exact World.putObj_size
      have ht2 : Turn (fun k => k = B ∨ k = w.heap.size + 1 ∨ some k = v.ownBlock) W W2 := by rw [← hW2]; exact Turn.putObj W _ (.inr (.inl rfl))
      have apart : ∀ (b : Nat) (o : Obj), W2.heap[b]? = some o → o.isCells = false → ¬ (b = B ∨ some b = v.ownBlock) := by
        rintro b o hb ho (rfl | e)
        · have h1 : W2.heap[b]? = some (.cells #[v] 27 (0, 0)) := hc2.1
          rw [h1] at hb; cases hb; cases ho
        · rcases hc2.2.2 with ⟨rfl, _⟩ | ⟨g, cap, cur, rfl, _, hgb, _⟩
          · simp [Value.ownBlock] at e
          · obtain rfl : b = g := by simpa [Value.ownBlock] using e
            rw [hgb] at hb; cases hb; cases ho
      refine wpIn_mono (hbody _ v pre x _ hc2 hlen (by omega)) ?_
      rintro e a3 W3 hp
      cases e with
      | normal =>
        obtain ⟨v', hc3, ht3, hv3⟩ := hp
        have hl3 : W3.heap[w.heap.size + 1]? = some (.loop { lp with state := .busy }) := (ht3.block _ (by omega) (apart _ _ hl2 rfl)).trans hl2
        have hk3 : W3.heap[w.heap.size]? = some (.deferred (some [])) := (ht3.block _ (by omega) (apart _ _ hk2 rfl)).trans hk2
        have hr := run_endRound (P := P) none hl3
        have hlp' : ({ { lp with state := .busy } with state := .ready, pending := none } : Loop) = lp := by rw [hlp]
        refine ⟨_, _, hr, rfl, v', ⟨hc3.putObj _ hl3 rfl, ?_, (World.putObj_heap_other (by omega)).trans hk3⟩, ?_, ?_⟩
        · refine (World.putObj_heap_same (Array.getElem?_eq_some_iff.1 hl3).1).trans ?_
          exact congrArg (fun q => some (Obj.loop q)) hlp'
        · exact (ht2.trans (ht3.mono (fun k _ hz => hz.elim .inl (fun q => .inr (.inr q))))).trans (Turn.putObj _ _ (.inr (.inl rfl)))
        · rcases hv3 with e | ⟨k, q1, q2⟩
          · exact .inl e
          · exact .inr ⟨k, q1, by omega⟩
      | ret => exact hp.elim
      | exit id => exact hp.elim
      | goto t => exact hp.elim
      | panic ch => exact hp.elim
      | outgrown => exact hp.elim
    · -- BEHIND THE ITERATOR
      rintro e W2 ⟨⟨u, rfl⟩, v, xs, hSx, hc, hl, hk⟩
      have hr := run_endLoop (P := P) hl (by rw [hlp]; simp)
      have hp : lp.pending = none := by rw [hlp]
      rw [hp] at hr
      exact ⟨none, _, hr, hdone v xs _ (hS xs W2 _ hSx) (hc.putObj _ hl rfl) ((World.putObj_heap_other (by omega)).trans hk)⟩
end Go.Proofs.Qxb6614821a
