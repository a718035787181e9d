/-
  A map[ID]bool that holds true at the keys of a set and nothing else.
-/
import Derived.Test.Qxb6614821aPlain
import Derived.MapKept
import Derived.RangeFuncNested
import Derived.RangeFuncBound
import Derived.RangeFuncCalls
import Derived.RangeFuncLeaves
import Derived.RangeFuncBox
import Derived.Shelf.Abstract
import Derived.Shelf.RegionOpen
import Derived.WalkKit
import Derived.OwnWalkIn
import Derived.TacticsInMore
import Derived.LoopNIn
import Derived.LoopIn
import Derived.Maps.OwnIn
import Derived.Maps.AppendAt
namespace Go.Proofs.Qxb6614821a
open Go.RowKit Go.MapKept

/-- BLOCK r IS A MAP KEYED BY int32 THAT HOLDS true AT JUST THE NUMBERS OF xs. -/
def SeenIs (w : World) (r : Nat) (xs : List Nat) : Prop :=
  ∃ es clock, w.heap[r]? = some (.map es clock) ∧ (∀ x ∈ es.toList, IsKey (.int .i32) x.key ∧ x.val = .bool true) ∧ (∀ m : Nat, m ∈ xs ↔ ∃ x ∈ es.toList, x.key = .int .i32 m)

theorem SeenIs.of_block {w w' : World} {r : Nat} {xs : List Nat} (h : SeenIs w r xs) (e : w'.heap[r]? = w.heap[r]?) : SeenIs w' r xs := by
  obtain ⟨es, clock, hb, r1⟩ := h
  exact ⟨es, clock, e.trans hb, r1⟩

theorem SeenIs.lt {w : World} {r : Nat} {xs : List Nat} (h : SeenIs w r xs) : r < w.heap.size := by
  obtain ⟨es, clock, hb, _⟩ := h
  exact (Array.getElem?_eq_some_iff.1 hb).1

/-- a cell's block is not the map's -/
theorem SeenIs.ne_cell {w : World} {r : Nat} {xs : List Nat} {p : Addr} {v : Value} (h : SeenIs w r xs) (hb : w.cell? p = some v) : p.block ≠ r := by
  rintro rfl
  obtain ⟨es, clock, h1, _⟩ := h
  simp [World.cell?, h1] at hb

theorem SeenIs.ne {w : World} {r b : Nat} {xs : List Nat} {o : Obj} (h : SeenIs w r xs) (hb : w.heap[b]? = some o) (ho : ∀ es c, o ≠ .map es c) : b ≠ r := by
  rintro rfl
  obtain ⟨es, clock, h1, _⟩ := h
  rw [h1] at hb
  cases hb
  exact ho _ _ rfl

theorem seenIs_made (w : World) : SeenIs (w.alloc (.map #[] 0)) w.heap.size [] :=
  ⟨#[], 0, (MapKept.heap_alloc w _).1, by simp, by simp⟩

section
variable {P : Program} {w : World} {T K E : TypeId} {r : Nat} {xs : List Nat}

theorem SeenIs.look_in (h : SeenIs w r xs) (hm : P.underlying T = some (.map K E)) (hd : P.underlying K = some (.int .i32)) {m : Nat} (hs : m ∈ xs) :
    (Instr.lookup T (.map (some r)) (.int .i32 m) false).run P w = .ok (.bool true) w := by
  obtain ⟨es, clock, hb, hk, hF⟩ := h
  have hkey : IsKey (.int .i32) (.int .i32 m) := rfl
  rcases findNow_spec hkey es.toList 0 (fun x hx => (hk x hx).1) with ⟨h1, h2⟩ | ⟨j, e, h1, h2, h3⟩
  · obtain ⟨x, hx, e1⟩ := (hF m).1 hs
    exact absurd e1 (h2 x hx)
  · have hv := (hk e (List.mem_of_getElem? h2)).2
    simp [Instr.lookup, run_underlying hm, MapKept.run_getObj_map hb, run_checkKey hd hkey, run_findKey hd h1, Result.andThen, hv]

theorem SeenIs.look_out (h : SeenIs w r xs) (hm : P.underlying T = some (.map K E)) (hd : P.underlying K = some (.int .i32)) (hz : (zeroValue E).run P w = .ok (.bool false) w) {m : Nat} (hs : m ∉ xs) :
    (Instr.lookup T (.map (some r)) (.int .i32 m) false).run P w = .ok (.bool false) w := by
  obtain ⟨es, clock, hb, hk, hF⟩ := h
  have hkey : IsKey (.int .i32) (.int .i32 m) := rfl
  rcases findNow_spec hkey es.toList 0 (fun x hx => (hk x hx).1) with ⟨h1, h2⟩ | ⟨j, e, h1, h2, h3⟩
  · simp [Instr.lookup, run_underlying hm, MapKept.run_getObj_map hb, run_checkKey hd hkey, run_findKey hd h1, Result.andThen, hz]
  · exact absurd ((hF m).2 ⟨e, List.mem_of_getElem? h2, h3⟩) hs

/-- a store at a key that is not there: the map alone has turned -/
theorem SeenIs.store (h : SeenIs w r xs) (hm : P.underlying T = some (.map K E)) (hd : P.underlying K = some (.int .i32)) {m : Nat} (hs : m ∉ xs) :
    ∃ w', (Instr.mapUpdate T (.map (some r)) (.int .i32 m) (.bool true)).run P w = .ok () w' ∧ SeenIs w' r (xs ++ [m]) ∧ w.grownBy w' (some r) := by
  obtain ⟨es, clock, hb, hk, hF⟩ := h
  have hkey : IsKey (.int .i32) (.int .i32 m) := rfl
  have frame : ∀ o, w.grownBy { w with heap := w.heap.setIfInBounds r o } (some r) := fun o => ⟨rfl, rfl, rfl, by simp, fun k _ hne => (heap_set hb).2 k (fun e => hne (by rw [e]))⟩
  rcases findNow_spec hkey es.toList 0 (fun x hx => (hk x hx).1) with ⟨h1, h2⟩ | ⟨j, e, h1, h2, h3⟩
  · refine ⟨{ w with heap := w.heap.setIfInBounds r (.map (es.push { key := .int .i32 m, val := .bool true, born := clock }) (clock + 1)) }, ?_, ⟨_, _, (heap_set hb).1, ?_, ?_⟩, frame _⟩
    · simp [Instr.mapUpdate, run_underlying hm, MapKept.run_getObj_map hb, run_checkKey hd hkey, run_findKey hd h1, run_setObj_map _ hb, Result.andThen]
    · intro x hx
      simp only [Array.toList_push, List.mem_append, List.mem_singleton] at hx
      rcases hx with hx | rfl
      · exact hk x hx
      · exact ⟨hkey, rfl⟩
    · intro m'
      simp only [Array.toList_push, List.mem_append, List.mem_singleton]
      constructor
      · rintro (hx | rfl)
        · obtain ⟨x, hx, e⟩ := (hF m').1 hx
          exact ⟨x, .inl hx, e⟩
        · exact ⟨_, .inr rfl, rfl⟩
      · rintro ⟨x, hx | rfl, e⟩
        · exact .inl ((hF m').2 ⟨x, hx, e⟩)
        · refine .inr ?_
          simp at e
          omega
  · exact absurd ((hF m).2 ⟨e, List.mem_of_getElem? h2, h3⟩) hs
end
end Go.Proofs.Qxb6614821a
