import Derived.Test.Qxb6614573aBase
import Derived.MapKept
namespace Go.Proofs.Qxb6614573a
open Go.RowKit Go.MapKept

/-- BLOCK r IS A MAP KEYED BY STRINGS, NO KEY TWICE, THAT HOLDS JUST WHAT F SAYS. -/
def MapIs (w : World) (r : Nat) (F : ByteArray → Option Value) : Prop :=
  ∃ es clock, w.heap[r]? = some (.map es clock) ∧ (∀ x ∈ es.toList, IsKey .string x.key) ∧ (es.toList.map (·.key)).Nodup ∧ (∀ s v, F s = some v ↔ ∃ x ∈ es.toList, x.key = .string s ∧ x.val = v)

theorem MapIs.of_block {w w' : World} {r : Nat} {F : ByteArray → Option Value} (h : MapIs w r F) (e : w'.heap[r]? = w.heap[r]?) : MapIs w' r F := by
  obtain ⟨es, clock, hb, r1⟩ := h
  exact ⟨es, clock, e.trans hb, r1⟩

theorem MapIs.lt {w : World} {r : Nat} {F : ByteArray → Option Value} (h : MapIs w r F) : r < w.heap.size := by
  obtain ⟨es, clock, hb, _⟩ := h
  exact (Array.getElem?_eq_some_iff.1 hb).1

/-- a block that is a row is not the map's -/
theorem MapIs.ne {w : World} {r b : Nat} {F : ByteArray → Option Value} {cs : Array Value} {t : TypeId} {fr : Nat × Nat} (h : MapIs w r F) (hb : w.heap[b]? = some (.cells cs t fr)) : b ≠ r := by
  rintro rfl
  obtain ⟨es, clock, h1, _⟩ := h
  rw [h1] at hb
  cases hb

theorem mapIs_made (w : World) : MapIs (w.alloc (.map #[] 0)) w.heap.size (fun _ => none) :=
  ⟨#[], 0, (MapKept.heap_alloc w _).1, by simp, by simp, by simp⟩

section
variable {P : Program} {w : World} {T K E : TypeId} {r : Nat} {F : ByteArray → Option Value}

theorem MapIs.look_some (h : MapIs w r F) (hm : P.underlying T = some (.map K E)) (hd : P.underlying K = some .string) {s : ByteArray} {v : Value} (hs : F s = some v) :
    (Instr.lookup T (.map (some r)) (.string s) true).run P w = .ok (.tuple #[v, .bool true]) w := by
  obtain ⟨es, clock, hb, hk, hnd, hF⟩ := h
  have hkey : IsKey .string (.string s) := trivial
  rcases findNow_spec hkey es.toList 0 hk with ⟨h1, h2⟩ | ⟨j, e, h1, h2, h3⟩
  · obtain ⟨x, hx, e1, _⟩ := (hF s v).1 hs
    exact absurd e1 (h2 x hx)
  · have he : e ∈ es.toList := List.mem_of_getElem? h2
    have hv : F s = some e.val := (hF s e.val).2 ⟨e, he, h3, rfl⟩
    rw [hs] at hv
    cases hv
    simp [Instr.lookup, run_underlying hm, MapKept.run_getObj_map hb, run_checkKey hd hkey, run_findKey hd h1, Result.andThen]

theorem MapIs.look_none (h : MapIs w r F) (hm : P.underlying T = some (.map K E)) (hd : P.underlying K = some .string) {z : Value} (hz : (zeroValue E).run P w = .ok z w) {s : ByteArray} (hs : F s = none) :
    (Instr.lookup T (.map (some r)) (.string s) true).run P w = .ok (.tuple #[z, .bool false]) w := by
  obtain ⟨es, clock, hb, hk, hnd, hF⟩ := h
  have hkey : IsKey .string (.string s) := trivial
  rcases findNow_spec hkey es.toList 0 hk with ⟨h1, h2⟩ | ⟨j, e, h1, h2, h3⟩
  · simp [Instr.lookup, run_underlying hm, MapKept.run_getObj_map hb, run_checkKey hd hkey, run_findKey hd h1, Result.andThen, hz]
  · have he : e ∈ es.toList := List.mem_of_getElem? h2
    have hv : F s = some e.val := (hF s e.val).2 ⟨e, he, h3, rfl⟩
    rw [hs] at hv
    cases hv

/-- a store: the map alone has turned -/
theorem MapIs.store (h : MapIs w r F) (hm : P.underlying T = some (.map K E)) (hd : P.underlying K = some .string) (s : ByteArray) (v : Value) :
    ∃ w', (Instr.mapUpdate T (.map (some r)) (.string s) v).run P w = .ok () w' ∧ MapIs w' r (fun t => if t = s then some v else F t) ∧ w.grownBy w' (some r) := by
  obtain ⟨es, clock, hb, hk, hnd, hF⟩ := h
  have hkey : IsKey .string (.string s) := trivial
  have hlt : r < w.heap.size := (Array.getElem?_eq_some_iff.1 hb).1
  have frame : ∀ o, w.grownBy { w with heap := w.heap.setIfInBounds r o } (some r) := fun o => ⟨rfl, rfl, rfl, by simp, fun k _ hne => (heap_set hb).2 k (fun e => hne (by rw [e]))⟩
  rcases findNow_spec hkey es.toList 0 hk with ⟨h1, h2⟩ | ⟨j, e, h1, h2, h3⟩
  · refine ⟨{ w with heap := w.heap.setIfInBounds r (.map (es.push { key := .string s, val := v, born := clock }) (clock + 1)) }, ?_, ⟨_, _, (heap_set hb).1, ?_, ?_, ?_⟩, frame _⟩
    · simp [Instr.mapUpdate, run_underlying hm, MapKept.run_getObj_map hb, run_checkKey hd hkey, run_findKey hd h1, run_setObj_map _ hb, Result.andThen]
    · intro x hx
      simp only [Array.toList_push, List.mem_append, List.mem_singleton] at hx
      rcases hx with hx | rfl
      · exact hk x hx
      · exact hkey
    · simp only [Array.toList_push, List.map_append, List.map_cons, List.map_nil]
      refine List.nodup_append.2 ⟨hnd, by simp, ?_⟩
      intro a ha b hb'
      simp only [List.mem_singleton] at hb'
      subst hb'
      obtain ⟨x, hx, rfl⟩ := List.mem_map.1 ha
      exact h2 x hx
    · intro t u
      simp only [Array.toList_push, List.mem_append, List.mem_singleton]
      by_cases e : t = s
      · subst e
        rw [if_pos rfl]
        constructor
        · intro q
          cases q
          exact ⟨_, .inr rfl, rfl, rfl⟩
        · rintro ⟨x, hx | rfl, q1, q2⟩
          · exact absurd q1 (h2 x hx)
          · exact congrArg some q2
      · rw [if_neg e, hF]
        constructor
        · rintro ⟨x, hx, q⟩
          exact ⟨x, .inl hx, q⟩
        · rintro ⟨x, hx | rfl, q1, q2⟩
          · exact ⟨x, hx, q1, q2⟩
          · cases q1
            exact absurd rfl e
  · have hj : es[j]? = some e := by simpa using h2
    refine ⟨{ w with heap := w.heap.setIfInBounds r (.map (es.modify j fun e => { e with key := .string s, val := v }) clock) }, ?_, ⟨_, _, (heap_set hb).1, ?_, ?_, ?_⟩, frame _⟩
    · simp [Instr.mapUpdate, run_underlying hm, MapKept.run_getObj_map hb, run_checkKey hd hkey, run_findKey hd h1, hj, h3, run_keyThatStays hkey, run_setObj_map _ hb, Result.andThen]
    · exact isKey_modify hk _ _ (fun e' he' => by rw [hj] at he'; cases he'; exact h3.symm)
    · have hkeys : (es.modify j fun e => { e with key := .string s, val := v }).toList.map (·.key) = es.toList.map (·.key) := by
        apply List.ext_getElem?
        intro i
        simp only [List.getElem?_map, Array.getElem?_toList, Array.getElem?_modify]
        by_cases q : j = i
        · subst q
          rw [if_pos rfl, hj]
          simp [h3]
        · rw [if_neg q]
      rw [hkeys]
      exact hnd
    · intro t u
      have mem : ∀ x, x ∈ (es.modify j fun e => { e with key := .string s, val := v }).toList ↔ (x = { e with key := .string s, val := v } ∨ ∃ i, i ≠ j ∧ es[i]? = some x) := by
        intro x
        rw [List.mem_iff_getElem?]
        simp only [Array.getElem?_toList, Array.getElem?_modify]
        constructor
        · rintro ⟨i, hi⟩
          by_cases q : j = i
          · subst q
            rw [if_pos rfl, hj] at hi
            exact .inl (by simpa using hi.symm)
          · rw [if_neg q] at hi
            exact .inr ⟨i, fun e => q e.symm, hi⟩
        · rintro (rfl | ⟨i, hi, q⟩)
          · exact ⟨j, by rw [if_pos rfl, hj]; rfl⟩
          · exact ⟨i, by rw [if_neg (fun e => hi e.symm)]; exact q⟩
      have only : ∀ i x, es[i]? = some x → x.key = .string s → i = j := by
        intro i x hi hx
        have hp : es.toList[i]? = some x := by simpa using hi
        have q1 : (es.toList.map (·.key))[i]? = some (.string s) := by rw [List.getElem?_map, hp]; exact congrArg some hx
        have q2 : (es.toList.map (·.key))[j]? = some (.string s) := by rw [List.getElem?_map, h2]; exact congrArg some h3
        have li := (List.getElem?_eq_some_iff.1 q1).1
        have lj := (List.getElem?_eq_some_iff.1 q2).1
        have eq := (List.getElem?_eq_some_iff.1 q1).2.trans (List.getElem?_eq_some_iff.1 q2).2.symm
        rcases Nat.lt_trichotomy i j with q | q | q
        · exact absurd eq (List.pairwise_iff_getElem.1 hnd i j li lj q)
        · exact q
        · exact absurd eq.symm (List.pairwise_iff_getElem.1 hnd j i lj li q)
      show (if t = s then some v else F t) = some u ↔ _
      by_cases q : t = s
      · subst q
        rw [if_pos rfl]
        constructor
        · intro q
          cases q
          exact ⟨_, (mem _).2 (.inl rfl), rfl, rfl⟩
        · rintro ⟨x, hx, q1, q2⟩
          rcases (mem x).1 hx with rfl | ⟨i, hi, q3⟩
          · exact congrArg some q2
          · exact absurd (only i x q3 q1) hi
      · rw [if_neg q, hF]
        constructor
        · rintro ⟨x, hx, q1, q2⟩
          obtain ⟨i, hi⟩ := List.mem_iff_getElem?.1 hx
          refine ⟨x, (mem x).2 (.inr ⟨i, ?_, by simpa using hi⟩), q1, q2⟩
          rintro rfl
          rw [h2] at hi
          cases hi
          rw [h3] at q1
          cases q1
          exact q rfl
        · rintro ⟨x, hx, q1, q2⟩
          rcases (mem x).1 hx with rfl | ⟨i, hi, q3⟩
          · cases q1
            exact absurd rfl q
          · exact ⟨x, List.mem_of_getElem? (by simpa using q3 : es.toList[i]? = some x), q1, q2⟩
end
end Go.Proofs.Qxb6614573a
