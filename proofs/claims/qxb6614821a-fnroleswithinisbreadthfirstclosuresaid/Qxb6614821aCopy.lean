import Derived.Test.Qxb6614821aLists
import Derived.Deep.OwnRows
import Derived.WalkSpells
namespace Go.Proofs.Qxb6614821a
open Go.RowKit

theorem Try.info29b : (Try.prog.info? 29).map (fun i => (i.zero, i.size, i.bytes)) = some (some (.int .i32 0), 1, 4) := by kernel_rfl
theorem Try.info27b : (Try.prog.info? 27).map (fun i => (i.zero, i.size, i.bytes)) = some (some (.slice none 0 0), 1, 24) := by kernel_rfl

/-- a list of numbers behind a slice, in a block from lo on -/
def List1 (lo : Nat) (w : World) (A : Option Addr) (len : Nat) (X : Nat → Int) : Prop :=
  len = 0 ∨ ∃ b off, lo ≤ b ∧ A = some ⟨b, off, none⟩ ∧ ∀ j, j < len → w.cell? ⟨b, off + j, none⟩ = some (.int .i32 (X j))

theorem List1.below {lo : Nat} {w w' : World} {A : Option Addr} {len : Nat} {X : Nat → Int} (h : List1 lo w A len X) (hb : Below w.heap.size w w') : List1 lo w' A len X := by
  rcases h with q | ⟨b, off, h0, e, q⟩
  · exact .inl q
  · exact .inr ⟨b, off, h0, e, fun v hv => (hb.cell (World.block_lt_of_cell? _ _ (q v hv))).trans (q v hv)⟩

theorem List1.set {lo : Nat} {w : World} {A : Option Addr} {len : Nat} {X : Nat → Int} (h : List1 lo w A len X) {b o : Nat} (hb : b < lo) (v : Value) : List1 lo (w.setCell ⟨b, o, none⟩ v) A len X := by
  rcases h with q | ⟨b', off, h0, e, q⟩
  · exact .inl q
  · refine .inr ⟨b', off, h0, e, fun j hj => ?_⟩
    rw [← q j hj]
    exact World.cell?_of_block (Below.heap_setCell _ _ _ _ (by show b' ≠ b; omega))

/-- what toIDs leaves -/
def IdsPost (w : World) (len : Nat) (X : Nat → Int) (e : Ending) (w' : World) : Prop :=
  ∃ A C, e = .returned (.slice A len C) ∧ len ≤ C ∧ List1 w.heap.size w' A len X ∧ Below w.heap.size w w'

theorem ids_nil (w : World) (X : Nat → Int) : IdsPost w 0 X (.returned (.slice none 0 0)) w := ⟨none, 0, rfl, Nat.le_refl _, .inl rfl, Below.refl _ _⟩

def ids (k : Nat) (X : Nat → Int) (j : Nat) : Value := if j < k then .int .i32 (X j) else .int .i32 0

set_option maxRecDepth 100000 in
set_option maxHeartbeats 2000000 in
theorem toIDs8 (A : Option Addr) (len c : Nat) (X : Nat → Int) (w : World) (hlen : len ≤ 1048576) (h : len = 0 ∨ ∃ b off, A = some ⟨b, off, none⟩ ∧ ∀ j, j < len → w.cell? ⟨b, off + j, none⟩ = some (.int .i32 (X j))) :
    Calls Try.prog 8 #[.slice A len c] w fun e w' => IdsPost w len X e w' := by
  cases A with
  | none =>
    obtain rfl : len = 0 := by
      rcases h with q | ⟨b, off, e, _⟩
      · exact q
      · cases e
    have hnn := fun w => Lib.run_eql_slice_nil (P := Try.prog) w 24 21 none 0 c 0 0 Try.underlying24
    go_enter Try.func8, Try.ntmps8
    go_wp2
    go_ret
    exact ids_nil w X
  | some ad =>
    have hnn := fun w => Lib.run_eql_slice_nil (P := Try.prog) w 24 21 (some ad) len c 0 0 Try.underlying24
    have hmk := run_make_row' (P := Try.prog) 27 29 (.int .i32 0) 4 Try.underlying27 Try.info29b rfl .i64 .i64 len (by omega) (by omega)
    go_enter Try.func8, Try.ntmps8
    go_wp2
    clear hmk hnn
    go_loopw [4] (fun i wr => ∃ k : Nat, k ≤ len ∧ i = .int .i64 k ∧ Below w.heap.size w wr ∧ wr.rowIs w.heap.size 29 len (ids k X)) (fun i _ => len - (intOf i).toNat)
    case atStart => exact ⟨0, Nat.zero_le _, rfl, (Below.refl _ _).alloc (Nat.le_refl _) _, (World.rowIs_made w _ len 29).congr (fun j _ => by simp [ids])⟩
    case round =>
      obtain ⟨k, hk, rfl, hb, hrow⟩ := hrel
      by_cases hlt : k < len
      · obtain ⟨b, off, e, hc⟩ : ∃ b off, some ad = some ⟨b, off, none⟩ ∧ ∀ j, j < len → w.cell? ⟨b, off + j, none⟩ = some (.int .i32 (X j)) := by
          rcases h with q | q
          · omega
          · exact q
        cases e
        have c0 := (hb.cell (World.block_lt_of_cell? _ _ (hc k hlt))).trans (hc k hlt)
        have c1 := hrow.cell hlt
        rw [ids, if_neg (by omega)] at c1
        have c2 := hrow.frozen k
        have HB : Hid (Below w.heap.size w wr) := hb
        have HR : Hid (wr.rowIs w.heap.size 29 len (ids k X)) := hrow
        clear hb hrow hc h
        go_wp2
        go_roundw
        case rel =>
          refine ⟨k + 1, by omega, by go_num, HB.out.setCell (Nat.le_refl _) _, (HR.out.set k _).congr fun j _ => ?_⟩
          unfold ids
          by_cases e : j = k
          · subst e; rw [if_pos rfl, if_pos (by omega)]
          · rw [if_neg e]
            by_cases e2 : j < k
            · rw [if_pos e2, if_pos (by omega)]
            · rw [if_neg e2, if_neg (by omega)]
        case measure => simp [intOf]; omega
      · obtain rfl : k = len := by omega
        go_wp2
        go_ret
        exact ⟨_, _, rfl, Nat.le_refl _, .inr ⟨w.heap.size, 0, Nat.le_refl _, rfl, fun j hj => by rw [Nat.zero_add]; have := hrow.cell hj; rwa [ids, if_pos hj] at this⟩, hb⟩

/-- the outer row, k lists copied -/
def outer (k : Nat) (A : Nat → Option Addr) (Len C : Nat → Nat) (j : Nat) : Value := if j < k then .slice (A j) (Len j) (C j) else .slice none 0 0

/-- k lists have been copied into the row g -/
def Copied (n k g : Nat) (Len : Nat → Nat) (X : Nat → Nat → Int) (A : Nat → Option Addr) (C : Nat → Nat) (w : World) : Prop :=
  w.rowIs g 27 n (outer k A Len C) ∧ ∀ v, v < k → Len v ≤ C v ∧ List1 (g + 1) w (A v) (Len v) (X v)

theorem Copied.below {n k g : Nat} {Len : Nat → Nat} {X : Nat → Nat → Int} {A : Nat → Option Addr} {C : Nat → Nat} {w w' : World} (h : Copied n k g Len X A C w) (hb : Below w.heap.size w w') : Copied n k g Len X A C w' :=
  ⟨h.1.of_block (hb.block g h.1.lt), fun v hv => ⟨(h.2 v hv).1, (h.2 v hv).2.below hb⟩⟩

theorem Copied.step {n k g : Nat} {Len : Nat → Nat} {X : Nat → Nat → Int} {A : Nat → Option Addr} {C : Nat → Nat} {w : World} (h : Copied n k g Len X A C w) {a : Option Addr} {c : Nat} (hc : Len k ≤ c) (hl : List1 (g + 1) w a (Len k) (X k)) :
    Copied n (k + 1) g Len X (fun v => if v = k then a else A v) (fun v => if v = k then c else C v) (w.setCell ⟨g, k, none⟩ (.slice a (Len k) c)) := by
  refine ⟨(h.1.set k _).congr fun j _ => ?_, fun v hv => ?_⟩
  · unfold outer
    dsimp only
    by_cases e : j = k
    · subst e; rw [if_pos rfl, if_pos (by omega), if_pos rfl, if_pos rfl]
    · rw [if_neg e, if_neg e, if_neg e]
      by_cases e2 : j < k
      · rw [if_pos e2, if_pos (by omega)]
      · rw [if_neg e2, if_neg (by omega)]
  · by_cases e : v = k
    · subst e
      simp only [if_true]
      exact ⟨hc, hl.set (by omega) _⟩
    · simp only [if_neg e]
      exact ⟨(h.2 v (by omega)).1, (h.2 v (by omega)).2.set (by omega) _⟩

set_option maxRecDepth 100000 in
set_option maxHeartbeats 2000000 in
theorem copyLists6 (b off n c : Nat) (A : Nat → Option Addr) (Len C : Nat → Nat) (X : Nat → Nat → Int) (w : World) (hn : n ≤ 1048576) (hu : Upto n Len) (h : Mat w (some ⟨b, off, none⟩) n A Len C X) :
    Calls Try.prog 6 #[.slice (some ⟨b, off, none⟩) n c] w fun e w' => e = .returned (.slice (some ⟨w.heap.size, 0, none⟩) n n) ∧ Below w.heap.size w w' ∧ ∃ A' C', Copied n n w.heap.size Len X A' C' w' := by
  have hnn := fun w => Lib.run_eql_slice_nil (P := Try.prog) w 22 24 (some ⟨b, off, none⟩) n c 0 0 Try.underlying22
  have hmk := run_make_row' (P := Try.prog) 25 27 (.slice none 0 0) 24 Try.underlying25 Try.info27b rfl .i64 .i64 n (by omega) (by omega)
  go_enter Try.func6, Try.ntmps6
  go_wp2_with fail
  clear hmk hnn
  go_loopw [4] (fun i wr => ∃ (k : Nat) (A' : Nat → Option Addr) (C' : Nat → Nat), k ≤ n ∧ i = .int .i64 k ∧ Below w.heap.size w wr ∧ Copied n k w.heap.size Len X A' C' wr) (fun i _ => n - (intOf i).toNat)
  case atStart => exact ⟨0, fun _ => none, fun _ => 0, Nat.zero_le _, rfl, (Below.refl _ _).alloc (Nat.le_refl _) _, (World.rowIs_made w _ n 27).congr (fun j _ => by simp [outer]), fun v hv => absurd hv (Nat.not_lt_zero _)⟩
  case round =>
    obtain ⟨k, A', C', hk, rfl, hb, hcop⟩ := hrel
    by_cases hlt : k < n
    · have h' := h.below hb
      obtain ⟨b', off', e, hc⟩ := h'.row hlt
      cases e
      have hl := hu k hlt
      have hit := h'.items k hlt
      have c1 := hcop.1.cell hlt
      rw [outer, if_neg (by omega)] at c1
      have HB : Hid (Below w.heap.size w wr) := hb
      have hg := hcop.1.lt
      have HIT : Hid (Len k = 0 ∨ ∃ b off, A k = some ⟨b, off, none⟩ ∧ ∀ j, j < Len k → wr.cell? ⟨b, off + j, none⟩ = some (.int .i32 (X k j))) := hit
      clear hb hit
      go_wp2_with fail
      refine (toIDs8 (A k) (Len k) (C k) (X k) wr hl HIT.out).mono ?_
      rintro e w1 ⟨a1, cc1, rfl, hcc, hl1, hb1⟩
      have hcop1 := hcop.below hb1
      have d1 := hcop1.1.cell hlt
      rw [outer, if_neg (by omega)] at d1
      have d2 := hcop1.1.frozen k
      have hfin := hcop1.step hcc (show List1 (w.heap.size + 1) w1 a1 (Len k) (X k) by
        rcases hl1 with q | ⟨b, off, h0, e, q⟩
        · exact .inl q
        · exact .inr ⟨b, off, by omega, e, q⟩)
      have hb2 : Below w.heap.size w w1 := HB.out.trans (hb1.mono HB.out.size)
      have HF : Hid (∃ A' C', Copied n (k + 1) w.heap.size Len X A' C' (w1.setCell ⟨w.heap.size, k, none⟩ (.slice a1 (Len k) cc1))) := ⟨_, _, hfin⟩
      clear hl1 hb1 hcop hcop1 hfin c1 HB h' hc HIT
      go_wp2_with fail
      go_roundw
      case rel =>
        obtain ⟨A2, C2, hf⟩ := HF.out
        exact ⟨k + 1, A2, C2, by omega, by go_num, hb2.setCell (Nat.le_refl _) _, hf⟩
      case measure => simp [intOf]; omega
    · obtain rfl : k = n := by omega
      go_wp2_with fail
      go_ret
      exact ⟨rfl, hb, A', C', hcop⟩
end Go.Proofs.Qxb6614821a
