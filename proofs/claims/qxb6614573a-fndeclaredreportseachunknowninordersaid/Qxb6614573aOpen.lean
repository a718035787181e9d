import Derived.Test.Qxb6614573aDiags
import Derived.ProofKit
import Derived.OpenShut
import Derived.ShutString
import Derived.ChangeOld
import Derived.Deep.Strs
namespace Go.Proofs.Qxb6614573a
open Go.ChangeShapes Go.WideShapes Go.ChangeAt Go.RowKit Go.Deep

section
variable {H : Type} {enc : TypeId × Value → H} {P : Program} {w : World} {base : Nat} {spare : Nat → Bool} {held : Bool}

/-- A SLICE OF STRUCTS OF THREE ONE-CELL FIELDS, OPENED AT EVERY INDEX. -/
theorem open_triples {t e : TypeId} {f0 f1 f2 : Field} {fuel : Nat} {cs : List Value} {x : DataW H × List MemPlace} (ht : P.underlying t = some (.slice e)) (he : P.underlying e = some (.struct #[f0, f1, f2]))
    (ce : P.cellsOf e = 3) (o0 : f0.offset = 0) (o1 : f1.offset = 1) (o2 : f2.offset = 2) (c0 : P.cellsOf f0.type = 1) (c1 : P.cellsOf f1.type = 1) (c2 : P.cellsOf f2.type = 1)
    (h : DataW.trod enc P w base spare held fuel t cs = some x) :
    cs = [.slice none 0 0] ∨
    ∃ (a : Addr) (len cap n : Nat) (V0 V1 V2 : Nat → Value), cs = [.slice (some a) len cap] ∧ len ≤ cap ∧ cap ≤ maxLen ∧
      ∀ i, i < len → (w.cell? (a.add (i * 3)) = some (V0 i) ∧ w.cell? (a.add (i * 3 + 1)) = some (V1 i) ∧ w.cell? (a.add (i * 3 + 2)) = some (V2 i)) ∧
        ∃ y0 y1 y2, DataW.trod enc P w base spare held n f0.type [V0 i] = some y0 ∧ DataW.trod enc P w base spare held n f1.type [V1 i] = some y1 ∧ DataW.trod enc P w base spare held n f2.type [V2 i] = some y2 := by
  rcases open_slice ht h with ⟨h0, _⟩ | ⟨a, len, cap, m, n, D, Pl, rfl, hb, hl, hm, hmm, rfl, hx⟩
  · exact Or.inl h0
  right
  have hlm : len ≤ m := by rw [hmm]; split <;> omega
  have each : ∀ i, i < len → ∃ q : Value × Value × Value, (w.cell? (a.add (i * 3)) = some q.1 ∧ w.cell? (a.add (i * 3 + 1)) = some q.2.1 ∧ w.cell? (a.add (i * 3 + 2)) = some q.2.2) ∧
      ∃ y0 y1 y2, DataW.trod enc P w base spare held (n - 1) f0.type [q.1] = some y0 ∧ DataW.trod enc P w base spare held (n - 1) f1.type [q.2.1] = some y1 ∧ DataW.trod enc P w base spare held (n - 1) f2.type [q.2.2] = some y2 := by
    intro i hi
    obtain ⟨cs', h1, h2⟩ := hx i (by omega)
    rw [ce] at h1
    obtain ⟨_, hlen, hcell⟩ := World.cells?_some h1
    obtain ⟨xs, k, hk, hxy, _, hxl, hf⟩ := DataW.trod_struct he h2
    have hk' : k = n - 1 := by omega
    subst hk'
    match xs, hxl, cs', hlen with
    | [y0, y1, y2], _, [v0, v1, v2], _ =>
      have g0 := hf 0 f0 rfl
      have g1 := hf 1 f1 rfl
      have g2 := hf 2 f2 rfl
      simp [o0, o1, o2, c0, c1, c2] at g0 g1 g2
      have e0 := hcell 0 (by omega)
      have e1 := hcell 1 (by omega)
      have e2 := hcell 2 (by omega)
      rw [add_add] at e0 e1 e2
      exact ⟨(v0, v1, v2), ⟨by simpa using e0, by simpa using e1, by simpa using e2⟩, y0, y1, y2, g0, g1, g2⟩
  obtain ⟨q, hq⟩ := choose_lt each
  exact ⟨a, len, cap, n - 1, fun i => (q i).1, fun i => (q i).2.1, fun i => (q i).2.2, rfl, hl, hm, hq⟩
end

/-- WHAT A WALK IS TOLD OF A []DiagIn THAT CAME IN. -/
structure DiagsIn (w : World) (ao : Option Addr) (n c : Nat) (L C S : Nat → Int) : Prop where
  le : n ≤ c
  max : c ≤ 9223372036854775807
  nil : ao = none → n = 0 ∧ c = 0
  ins : Ins w ao n L C S

theorem open_diags {H : Type} {enc : TypeId × Value → H} {w : World} {base : Nat} {spare : Nat → Bool} {held : Bool} {fuel : Nat} {a0 : Option Addr} {len cap : Nat} {x : DataW H × List MemPlace}
    (h : DataW.trod enc Try.prog w base spare held fuel 22 [.slice a0 len cap] = some x) : ∃ L C S, DiagsIn w a0 len cap L C S := by
  rcases open_triples Try.underlying22 Try.underlying28 Try.cells28 rfl rfl rfl Try.cells3 Try.cells3 Try.cells3 h with h0 | ⟨a, l, c, n, V0, V1, V2, hcs, hl, hm, hx⟩
  · simp at h0
    obtain ⟨rfl, rfl, rfl⟩ := h0
    exact ⟨fun _ => 0, fun _ => 0, fun _ => 0, Nat.le_refl _, by omega, fun _ => ⟨rfl, rfl⟩, .inl rfl⟩
  · simp at hcs
    obtain ⟨rfl, rfl, rfl⟩ := hcs
    have each : ∀ i, i < len → ∃ q : Int × Int × Int, w.cell? (a.add (i * 3)) = some (.int .i64 q.1) ∧ w.cell? (a.add (i * 3 + 1)) = some (.int .i64 q.2.1) ∧ w.cell? (a.add (i * 3 + 2)) = some (.int .i64 q.2.2) := by
      intro i hi
      obtain ⟨⟨g0, g1, g2⟩, y0, y1, y2, r0, r1, r2⟩ := hx i hi
      obtain ⟨n0, e0, _⟩ := DataW.trod_int Try.underlying3 r0
      obtain ⟨n1, e1, _⟩ := DataW.trod_int Try.underlying3 r1
      obtain ⟨n2, e2, _⟩ := DataW.trod_int Try.underlying3 r2
      simp at e0 e1 e2
      exact ⟨(n0, n1, n2), by rw [g0, e0], by rw [g1, e1], by rw [g2, e2]⟩
    obtain ⟨q, hq⟩ := choose_lt each
    refine ⟨fun i => (q i).1, fun i => (q i).2.1, fun i => (q i).2.2, hl, by unfold maxLen at hm; omega, fun h => (by cases h), ?_⟩
    by_cases hz : len = 0
    · exact .inl hz
    · obtain ⟨b, off, spot⟩ := a
      have hc := (hq 0 (by omega)).1
      have hspot : spot = none := by simpa [Addr.add] using World.cell?_spot hc
      subst hspot
      exact .inr ⟨b, off, rfl, fun i hi => by
        have := hq i hi
        rw [add_plain, add_plain, add_plain] at this
        exact this⟩
end Go.Proofs.Qxb6614573a
