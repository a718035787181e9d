import Derived.Test.Qxb6614573aReports
import Derived.Test.Qxb6614573aOpen
import Derived.Test.Qxb6614573aOpenNames
namespace Go.Proofs.Qxb6614573a
open Go.ChangeShapes Go.WideShapes Go.ChangeAt Go.RowKit Go.Deep

theorem open_queries {H : Type} {enc : TypeId × Value → H} {w : World} {base : Nat} {spare : Nat → Bool} {held : Bool} {fuel : Nat} {a0 : Option Addr} {len cap : Nat} {x : DataW H × List MemPlace}
    (h : DataW.trod enc Try.prog w base spare held fuel 31 [.slice a0 len cap] = some x) : ∃ Q L C, QsIn w a0 len cap Q L C := by
  rcases open_triples Try.underlying31 Try.underlying34 Try.cells34 rfl rfl rfl Try.cells9 Try.cells3 Try.cells3 h with h0 | ⟨a, l, c, n, V0, V1, V2, hcs, hl, hm, hx⟩
  · simp at h0
    obtain ⟨rfl, rfl, rfl⟩ := h0
    exact ⟨fun _ => ByteArray.empty, fun _ => 0, fun _ => 0, Nat.le_refl _, by omega, .inl rfl, fun i hi => absurd hi (Nat.not_lt_zero _)⟩
  · simp at hcs
    obtain ⟨rfl, rfl, rfl⟩ := hcs
    have each : ∀ i, i < len → ∃ q : ByteArray × Int × Int, (w.cell? (a.add (i * 3)) = some (.string q.1) ∧ w.cell? (a.add (i * 3 + 1)) = some (.int .i64 q.2.1) ∧ w.cell? (a.add (i * 3 + 2)) = some (.int .i64 q.2.2)) ∧ q.1.size ≤ maxLen := by
      intro i hi
      obtain ⟨⟨g0, g1, g2⟩, y0, y1, y2, r0, r1, r2⟩ := hx i hi
      obtain ⟨n0, e0, _, hs⟩ := DataW.trod_string Try.underlying9 r0
      obtain ⟨n1, e1, _⟩ := DataW.trod_int Try.underlying3 r1
      obtain ⟨n2, e2, _⟩ := DataW.trod_int Try.underlying3 r2
      simp at e0 e1 e2
      exact ⟨(n0, n1, n2), ⟨by rw [g0, e0], by rw [g1, e1], by rw [g2, e2]⟩, hs⟩
    obtain ⟨q, hq⟩ := choose_lt (α := ByteArray × Int × Int) each
    unfold maxLen at hm hq
    refine ⟨fun i => (q i).1, fun i => (q i).2.1, fun i => (q i).2.2, hl, by omega, ?_, fun i hi => by have := (hq i hi).2; omega⟩
    by_cases hz : len = 0
    · exact .inl hz
    · obtain ⟨b, off, spot⟩ := a
      have hc := (hq 0 (by omega)).1.1
      have hspot : spot = none := by simpa [Addr.add] using World.cell?_spot hc
      subst hspot
      exact .inr ⟨b, off, rfl, fun i hi => by
        have := (hq i hi).1
        rw [add_plain, add_plain, add_plain] at this
        exact this⟩
end Go.Proofs.Qxb6614573a
