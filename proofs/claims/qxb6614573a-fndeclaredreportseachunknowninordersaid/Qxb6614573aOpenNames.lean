import Derived.Test.Qxb6614573aNames
import Derived.ProofKit
import Derived.OpenShut
import Derived.ShutString
import Derived.ChangeOld
import Derived.Deep.Strs
namespace Go.Proofs.Qxb6614573a
open Go.ChangeShapes Go.WideShapes Go.ChangeAt Go.RowKit Go.Deep

theorem open_names {H : Type} {enc : TypeId × Value → H} {w : World} {base : Nat} {spare : Nat → Bool} {held : Bool} {fuel : Nat} {a0 : Option Addr} {len cap : Nat} {x : DataW H × List MemPlace}
    (h : DataW.trod enc Try.prog w base spare held fuel 30 [.slice a0 len cap] = some x) : ∃ X, NamesIn w a0 len cap X := by
  rcases open_strs Try.underlying30 Try.underlying9 Try.cells9 h with ⟨h0, _⟩ | ⟨a, l, c, m, Sx, hcs, _, hl, hm, hmm, _, hx⟩
  · simp at h0
    obtain ⟨rfl, rfl, rfl⟩ := h0
    exact ⟨fun _ => ByteArray.empty, Nat.le_refl _, by omega, .inl rfl, fun i hi => absurd hi (Nat.not_lt_zero _)⟩
  · simp at hcs
    obtain ⟨rfl, rfl, rfl⟩ := hcs
    have hlm : len ≤ m := by rw [hmm]; split <;> omega
    unfold maxLen at hm hx
    refine ⟨Sx, hl, by omega, ?_, fun i hi => by have := (hx i (by omega)).2; omega⟩
    by_cases hz : len = 0
    · exact .inl hz
    · obtain ⟨b, off, spot⟩ := a
      have hc := (hx 0 (by omega)).1
      have hspot : spot = none := by simpa [Addr.add] using World.cell?_spot hc
      subst hspot
      exact .inr ⟨b, off, rfl, fun i hi => by
        have := (hx i (by omega)).1
        rwa [add_plain] at this⟩
end Go.Proofs.Qxb6614573a
