import Derived.Test.Qxb6614573aMap
import Derived.Deep.AppendLies
import Derived.Deep.RegionHeldLaw
import Derived.Deep.RegionWith
import Derived.Deep.RegionLaw
namespace Go.Proofs.Qxb6614573a
open Go.RowKit

/-- a struct type's cells -/
def typCells (s : ByteArray) : Array Value := #[.int .i64 8, .string s, .pointer none, .pointer none, .slice none 0 0, .slice none 0 0, .map none, .bool false, .int .i64 1]

theorem newStruct_any (s : ByteArray) (w : World) :
    Calls Try.prog 14 #[.string s, .int .i64 1] w fun e w' => e = .returned (.pointer (some ⟨w.heap.size, 0, none⟩)) ∧ w' = w.alloc (.cells (typCells s) 66) := by
  go_enter Try.func14, Try.ntmps14
  go_wp2
  go_ret
  exact ⟨rfl, rfl⟩

/-- one diagnostic: its line, column, name, and the block of its arguments -/
structure DG where
  l : Int
  c : Int
  s : ByteArray
  a : Nat

def fmtText : ByteArray := ⟨#[117, 110, 107, 110, 111, 119, 110, 32, 116, 121, 112, 101, 32, 37, 115]⟩
def DG.cells (d : DG) : List Value := [.int .i64 d.l, .int .i64 d.c, .int .i64 0, .string fmtText, .slice (some ⟨d.a, 0, none⟩) 1 1]
def DG.pub (d : DG) : Int × Int × ByteArray := (d.l, d.c, d.s)

/-- THE CHECKER at block c: its map at block r holds just the types that F says; its diagnostics, the slice v, are ds. All that the checker can write lies from block B on. -/
structure Chk (B : Nat) (w : World) (c r : Nat) (F : ByteArray → Option Nat) (v : Value) (ds : List DG) : Prop where
  cB : B ≤ c
  rB : B ≤ r
  chk : ∃ r1 r2, w.heap[c]? = some (.cells #[.map (some r), .map (some r1), .map (some r2), .slice none 0 0, v, .bool false] 60 (0, 0))
  map : MapIs w r (fun s => (F s).map fun b => .pointer (some ⟨b, 0, none⟩))
  typ : ∀ s b, F s = some b → w.heap[b]? = some (.cells (typCells s) 66 (0, 0))
  own : w.ownsRow B 50 5 v ds.length (ds.flatMap DG.cells)
  args : ∀ d ∈ ds, w.heap[d.a]? = some (.cells #[.iface 9 (.string d.s)] 20 (0, 0))

theorem heap_lt {w : World} {b : Nat} {o : Obj} (h : w.heap[b]? = some o) : b < w.heap.size := (Array.getElem?_eq_some_iff.1 h).1

theorem grown_of_below {w w' : World} (h : Below w.heap.size w w') : w.grownBy w' none := ⟨h.os, h.tape, h.output, h.size, fun k hk _ => h.block k hk⟩

/-- every row but a checker and a row of diagnostics is as it was -/
def Keeps (w w' : World) : Prop := ∀ (k : Nat) (cs : Array Value) (t : TypeId), w.heap[k]? = some (.cells cs t (0, 0)) → t ≠ 50 → t ≠ 60 → w'.heap[k]? = some (.cells cs t (0, 0))
theorem Keeps.trans {a b c : World} (h : Keeps a b) (k : Keeps b c) : Keeps a c := fun i cs t q n m => k i cs t (h i cs t q n m) n m
theorem keeps_of_below {w w' : World} (h : Below w.heap.size w w') : Keeps w w' := fun _ _ _ q _ _ => (h.block _ (heap_lt q)).trans q

/-- new blocks disturb nothing -/
theorem Chk.below {B : Nat} {w w' : World} {c r : Nat} {F : ByteArray → Option Nat} {v : Value} {ds : List DG} (h : Chk B w c r F v ds) (hb : Below w.heap.size w w') : Chk B w' c r F v ds := by
  obtain ⟨r1, r2, hc⟩ := h.chk
  refine ⟨h.cB, h.rB, ⟨r1, r2, (hb.block _ (heap_lt hc)).trans hc⟩, h.map.of_block (hb.block _ h.map.lt), fun s b q => ?_, h.own.kept (grown_of_below hb) (by cases v.ownBlock <;> simp), fun d hd => ?_⟩
  · have := h.typ s b q
    exact (hb.block _ (heap_lt this)).trans this
  · have := h.args d hd
    exact (hb.block _ (heap_lt this)).trans this

theorem newChecker_any (B : Nat) (w : World) (hB : B ≤ w.heap.size) :
    Calls Try.prog 12 #[] w fun e w' => e = .returned (.pointer (some ⟨w.heap.size + 3, 0, none⟩)) ∧ Below w.heap.size w w' ∧ Chk B w' (w.heap.size + 3) w.heap.size (fun _ => none) (.slice none 0 0) [] := by
  have hmm := @run_makeMap Try.prog
  go_enter Try.func12, Try.ntmps12
  go_wp2
  go_ret
  refine ⟨rfl, ((((Below.refl _ _).alloc (Nat.le_refl _) _).alloc (by simp) _).alloc (by simp; omega) _).alloc (by simp; omega) _, by omega, hB, ⟨w.heap.size + 1, w.heap.size + 2, ?_⟩, ?_, fun s b h => (by cases h), World.ownsRow_nil _ _ _ _, by simp⟩
  · have := heap_alloc_new (((w.alloc (.map #[] 0)).alloc (.map #[] 0)).alloc (.map #[] 0)) (.cells #[.map (some w.heap.size), .map (some (w.heap.size + 1)), .map (some (w.heap.size + 2)), .slice none 0 0, .slice none 0 0, .bool false] 60)
    simpa using this
  · exact (((mapIs_made w).of_block (Below.heap_alloc _ _ _ (by simp))).of_block (Below.heap_alloc _ _ _ (by simp; omega))).of_block (Below.heap_alloc _ _ _ (by simp; omega))

/-- a type is declared -/
theorem Chk.declared {B : Nat} {w w' : World} {c r b : Nat} {F : ByteArray → Option Nat} {v : Value} {ds : List DG} {s : ByteArray} (h : Chk B w c r F v ds) (hs : w.heap[b]? = some (.cells (typCells s) 66 (0, 0)))
    (hm : MapIs w' r (fun t => if t = s then some (.pointer (some ⟨b, 0, none⟩)) else (F t).map fun b => .pointer (some ⟨b, 0, none⟩))) (hg : w.grownBy w' (some r)) :
    Chk B w' c r (fun t => if t = s then some b else F t) v ds := by
  obtain ⟨r1, r2, hc⟩ := h.chk
  have keep : ∀ {k : Nat} {cs : Array Value} {t : TypeId} {fr : Nat × Nat}, w.heap[k]? = some (.cells cs t fr) → w'.heap[k]? = some (.cells cs t fr) := fun {k} _ _ _ q =>
    (hg.block k (heap_lt q) (fun e => h.map.ne q (Option.some.inj e))).trans q
  refine ⟨h.cB, h.rB, ⟨r1, r2, keep hc⟩, ?_, fun t b' q => ?_, h.own.kept hg ?_, fun d hd => keep (h.args d hd)⟩
  · have e : (fun t => (if t = s then some b else F t).map fun b => (.pointer (some ⟨b, 0, none⟩) : Value)) = fun t => if t = s then some (.pointer (some ⟨b, 0, none⟩)) else (F t).map fun b => .pointer (some ⟨b, 0, none⟩) := by
      funext t
      split <;> rfl
    rw [e]
    exact hm
  · by_cases e : t = s
    · subst e
      simp only [if_pos] at q
      cases q
      exact keep hs
    · simp only [if_neg e] at q
      exact keep (h.typ t b' q)
  · rcases h.own.2 with ⟨rfl, _⟩ | ⟨g, cap, cur, rfl, _, hg', _⟩
    · exact .inl rfl
    · exact .inr (fun e => h.map.ne hg' (by simpa [Value.ownBlock] using e))

set_option maxHeartbeats 400000 in
theorem declare_any (B : Nat) (w : World) (c r b : Nat) (F : ByteArray → Option Nat) (v : Value) (ds : List DG) (s : ByteArray) (h : Chk B w c r F v ds) (hs : w.heap[b]? = some (.cells (typCells s) 66 (0, 0))) :
    Calls Try.prog 13 #[.pointer (some ⟨c, 0, none⟩), .pointer (some ⟨b, 0, none⟩)] w fun e w' => e = .returned (.tuple #[]) ∧ Below B w w' ∧ Keeps w w' ∧ Chk B w' c r (fun t => if t = s then some b else F t) v ds := by
  obtain ⟨r1, r2, hc⟩ := h.chk
  have hmd : MapIs w.drew r (fun s => (F s).map fun b => .pointer (some ⟨b, 0, none⟩)) := h.map
  obtain ⟨w2, hrun, hm, hg⟩ := hmd.store (P := Try.prog) Try.underlying56 Try.underlying9 s (.pointer (some ⟨b, 0, none⟩))
  have hg' : w.grownBy w2 (some r) := ⟨hg.os, hg.tape, hg.output, hg.size, hg.block⟩
  have R : Hid (Below B w w2 ∧ Keeps w w2 ∧ Chk B w2 c r (fun t => if t = s then some b else F t) v ds) :=
    ⟨⟨hg'.os, hg'.tape, hg'.output, hg'.size, fun k hk => hg'.block k (by have := h.rB; have := h.map.lt; omega) (fun e => by cases e; have := h.rB; omega)⟩,
      fun k _ _ q _ _ => (hg'.block k (heap_lt q) (fun e => h.map.ne q (Option.some.inj e))).trans q, h.declared hs hm hg'⟩
  have e0 : w.cell? ⟨c, 0, none⟩ = some (.map (some r)) := by rw [cell_of_row w c 0 _ _ _ hc]; rfl
  have e1 : w.cell? ⟨b, 1, none⟩ = some (.string s) := by rw [cell_of_row w b 1 _ _ _ hs]; rfl
  clear hm hg hg' hmd h hc hs
  go_enter Try.func13, Try.ntmps13
  go_wp2
  go_big_region
  go_end0
  exact ⟨rfl, R.out⟩

/-- a row of diagnostics is no other row -/
theorem own_ne {B : Nat} {w : World} {v : Value} {n b : Nat} {xs : List Value} {cs : Array Value} {t : TypeId} (h : w.ownsRow B 50 5 v n xs) (hb : w.heap[b]? = some (.cells cs t (0, 0))) (ht : t ≠ 50) : some b ≠ v.ownBlock := by
  rcases h.2 with ⟨rfl, _⟩ | ⟨g, cap, cur, rfl, _, hg, _⟩
  · simp [Value.ownBlock]
  · intro e
    simp [Value.ownBlock] at e
    subst e
    rw [hb] at hg
    simp at hg
    exact ht hg.2

theorem own_ne_map {B : Nat} {w : World} {v : Value} {n r : Nat} {xs : List Value} {F : ByteArray → Option Value} (h : w.ownsRow B 50 5 v n xs) (hm : MapIs w r F) : some r ≠ v.ownBlock := by
  rcases h.2 with ⟨rfl, _⟩ | ⟨g, cap, cur, rfl, _, hg, _⟩
  · simp [Value.ownBlock]
  · intro e
    simp [Value.ownBlock] at e
    exact hm.ne hg e.symm

/-- a diagnostic is put at the end -/
theorem Chk.reported {B : Nat} {w W w1 : World} {c r g cap : Nat} {F : ByteArray → Option Nat} {v : Value} {ds : List DG} {d : DG} (h : Chk B w c r F v ds) (hB : B ≤ w.heap.size) (hW : Below w.heap.size w W)
    (hown : w1.ownsRow B 50 5 (.slice (some ⟨g, 0, none⟩) (ds.length + 1) cap) (ds.length + 1) (ds.flatMap DG.cells ++ d.cells)) (hgrow : W.grownBy w1 v.ownBlock) (hat : v.ownBlock = some g ∨ g = W.heap.size)
    (ha : w.heap[d.a]? = some (.cells #[.iface 9 (.string d.s)] 20 (0, 0))) :
    Below B w (w1.setCell ⟨c, 4, none⟩ (.slice (some ⟨g, 0, none⟩) (ds.length + 1) cap)) ∧ Keeps w (w1.setCell ⟨c, 4, none⟩ (.slice (some ⟨g, 0, none⟩) (ds.length + 1) cap)) ∧ Chk B (w1.setCell ⟨c, 4, none⟩ (.slice (some ⟨g, 0, none⟩) (ds.length + 1) cap)) c r F (.slice (some ⟨g, 0, none⟩) (ds.length + 1) cap) (ds ++ [d]) := by
  obtain ⟨r1, r2, hc⟩ := h.chk
  have hsz := hW.size
  have hcg : c ≠ g := by
    rintro rfl
    rcases hat with q | q
    · exact own_ne h.own hc (by decide) q.symm
    · have := heap_lt hc
      omega
  have keep1 : ∀ k, k < w.heap.size → some k ≠ v.ownBlock → w1.heap[k]? = w.heap[k]? := fun k hk hne => (hgrow.block k (by omega) hne).trans (hW.block k hk)
  have keep : ∀ {k : Nat} {cs : Array Value} {t : TypeId}, w.heap[k]? = some (.cells cs t (0, 0)) → t ≠ 50 → t ≠ 60 → (w1.setCell ⟨c, 4, none⟩ (.slice (some ⟨g, 0, none⟩) (ds.length + 1) cap)).heap[k]? = some (.cells cs t (0, 0)) := by
    intro k cs t q n50 n60
    have hkc : k ≠ c := by
      rintro rfl
      rw [hc] at q
      simp at q
      exact n60 q.2.symm
    rw [heap_setCell_other _ _ _ _ hkc, keep1 k (heap_lt q) (own_ne h.own q n50)]
    exact q
  have hc1 : w1.heap[c]? = some (.cells #[.map (some r), .map (some r1), .map (some r2), .slice none 0 0, v, .bool false] 60 (0, 0)) := (keep1 c (heap_lt hc) (own_ne h.own hc (by decide))).trans hc
  refine ⟨⟨?_, ?_, ?_, ?_, ?_⟩, fun _ _ _ q n50 n60 => keep q n50 n60, h.cB, h.rB, ⟨r1, r2, ?_⟩, h.map.of_block ?_, fun s b q => keep (h.typ s b q) (by decide) (by decide), ?_, ?_⟩
  · exact hgrow.os.trans hW.os
  · exact hgrow.tape.trans hW.tape
  · exact hgrow.output.trans hW.output
  · have := hgrow.size
    simp only [World.size_setCell]
    omega
  · intro k hk
    rw [heap_setCell_other _ _ _ _ (by have := h.cB; show k ≠ c; omega)]
    refine keep1 k (by omega) ?_
    rcases h.own.2 with ⟨rfl, _⟩ | ⟨g', cap', cur, rfl, hg', _, _⟩
    · simp [Value.ownBlock]
    · simp [Value.ownBlock]
      omega
  · rw [heap_setCell_same w1 c 4 _ 60 _ hc1]
    rfl
  · rw [heap_setCell_other _ _ _ _ (by exact (h.map.ne hc).symm)]
    exact keep1 r h.map.lt (own_ne_map h.own h.map)
  · have hg2 : w1.grownBy (w1.setCell ⟨c, 4, none⟩ (.slice (some ⟨g, 0, none⟩) (ds.length + 1) cap)) (some c) := ⟨rfl, rfl, rfl, by simp, fun k _ hk => heap_setCell_other _ _ _ _ (fun e => hk (by rw [e]))⟩
    have := hown.kept hg2 (.inr (by simp [Value.ownBlock]; exact fun e => hcg e.symm))
    simpa using this
  · intro d' hd'
    rw [List.mem_append, List.mem_singleton] at hd'
    rcases hd' with hd' | rfl
    · exact keep (h.args d' hd') (by decide) (by decide)
    · exact keep ha (by decide) (by decide)

set_option maxHeartbeats 1000000 in
theorem errorf_any (B : Nat) (w : World) (c r : Nat) (F : ByteArray → Option Nat) (v : Value) (ds : List DG) (d : DG) (h : Chk B w c r F v ds) (hB : B ≤ w.heap.size) (hn : ds.length ≤ 1000000) (ha : w.heap[d.a]? = some (.cells #[.iface 9 (.string d.s)] 20 (0, 0))) :
    Calls Try.prog 25 #[.pointer (some ⟨c, 0, none⟩), .agg #[.int .i64 d.l, .int .i64 d.c], .string fmtText, .slice (some ⟨d.a, 0, none⟩) 1 1] w fun e w' => e = .returned (.tuple #[]) ∧ Below B w w' ∧ Keeps w w' ∧ ∃ v', Chk B w' c r F v' (ds ++ [d]) := by
  obtain ⟨r1, r2, hc⟩ := h.chk
  obtain ⟨i0, hi0, hz0, hz1, hz2⟩ := info_parts Try.info50
  have lc := heap_lt hc
  have e4 : w.cell? ⟨c, 4, none⟩ = some v := by rw [cell_of_row w c 4 _ _ _ hc]; rfl
  have f4 : w.frozen? ⟨c, 4, none⟩ = false := frozen_of_row w c 4 _ _ hc
  have hown := h.own
  have av : some c ≠ v.ownBlock := own_ne h.own hc (by decide)
  have HH : Hid (Chk B w c r F v ds) := h
  have HA : Hid (w.heap[d.a]? = some (.cells #[.iface 9 (.string d.s)] 20 (0, 0))) := ha
  clear h ha hc
  have E4 : (w.alloc (.cells #[.int .i64 d.l, .int .i64 d.c] 43)).cell? ⟨c, 4, none⟩ = some v := by rw [World.cell?_of_block (w := w) (Below.heap_alloc w _ c lc)]; exact e4
  have F4 : (w.alloc (.cells #[.int .i64 d.l, .int .i64 d.c] 43)).frozen? ⟨c, 4, none⟩ = false := by rw [World.frozen?_of_block (w := w) (Below.heap_alloc w _ c lc)]; exact f4
  have G0 : (w.alloc (.cells #[.int .i64 d.l, .int .i64 d.c] 43)).cell? ⟨w.heap.size, 0, none⟩ = some (.int .i64 d.l) := by rw [cell_of_row _ _ 0 _ _ _ (heap_alloc_new w _)]; rfl
  have G1 : (w.alloc (.cells #[.int .i64 d.l, .int .i64 d.c] 43)).cell? ⟨w.heap.size, 1, none⟩ = some (.int .i64 d.c) := by rw [cell_of_row _ _ 1 _ _ _ (heap_alloc_new w _)]; rfl
  have O : (w.alloc (.cells #[.int .i64 d.l, .int .i64 d.c] 43)).ownsRow B 50 5 v ds.length (ds.flatMap DG.cells) := hown.alloc _
  have BW : Hid (Below w.heap.size w (w.alloc (.cells #[.int .i64 d.l, .int .i64 d.c] 43))) := (Below.refl _ _).alloc (Nat.le_refl _) _
  have SZ : w.heap.size < (w.alloc (.cells #[.int .i64 d.l, .int .i64 d.c] 43)).heap.size := by simp
  have av2 : some w.heap.size ≠ v.ownBlock := by
    intro e
    have := (hown.lt _ e.symm).2
    omega
  clear e4 f4 hown
  go_enter Try.func25, Try.ntmps25
  go_wp2_with fail
  generalize w.alloc (.cells #[.int .i64 d.l, .int .i64 d.c] 43) = W at *
  have AA : Hid (∀ o, (W.alloc o).drew.cell? ⟨c, 4, none⟩ = some v ∧ (W.alloc o).drew.frozen? ⟨c, 4, none⟩ = false ∧ (W.alloc o).drew.cell? ⟨w.heap.size, 0, none⟩ = some (.int .i64 d.l) ∧ (W.alloc o).drew.cell? ⟨w.heap.size, 1, none⟩ = some (.int .i64 d.c)) := by
    intro o
    refine ⟨?_, ?_, ?_, ?_⟩
    · exact (World.cell?_of_block (w := W) (Below.heap_alloc W o c (by omega))).trans E4
    · exact (World.frozen?_of_block (w := W) (Below.heap_alloc W o c (by omega))).trans F4
    · exact (World.cell?_of_block (w := W) (Below.heap_alloc W o w.heap.size (by omega))).trans G0
    · exact (World.cell?_of_block (w := W) (Below.heap_alloc W o w.heap.size (by omega))).trans G1
  have A1 : ∀ o, (W.alloc o).cell? ⟨c, 4, none⟩ = some v := fun o => (AA.out o).1
  go_region_law
    ((refine step_append_lies _ (by rfl) _ _ _ (by rfl) B 50 i0 _ 5 64 Try.underlying24 hi0 hz0 hz1 hz2 rfl (by omega) v ds.length _ (by rfl) ((O.alloc _).drew)
        ⟨W.heap.size, 0, none⟩ 1 1 d.cells (by rfl) (by rfl) (World.news_of_block (cs := #[.int .i64 d.l, .int .i64 d.c, .int .i64 0, .string fmtText, .slice (some ⟨d.a, 0, none⟩) 1 1]) (t := 50) (fr := (0, 0)) (heap_alloc_new W _)) (by simp [Value.oneCell', DG.cells])
        (by omega) (by unfold maxLen; omega) (by omega) (by simp; omega) (W.heap.size + 1) (by simp) ?_; intro gg cap w1 hown1 hgrow hat hlt; have E5 : w1.cell? ⟨c, 4, none⟩ = some v := (hgrow.cell_far ⟨c, 4, none⟩ (by simp; omega) av).trans (AA.out _).1; have F5 : w1.frozen? ⟨c, 4, none⟩ = false := (hgrow.frozen_far ⟨c, 4, none⟩ (by simp; omega) av).trans (AA.out _).2.1))
  all_goals
    go_end0
    have R := HH.out.reported (W := (W.alloc (.cells #[.int .i64 d.l, .int .i64 d.c, .int .i64 0, .string fmtText, .slice (some ⟨d.a, 0, none⟩) 1 1] 50)).drew) hB ((BW.out.alloc BW.out.size _).drew) hown1 hgrow (by simpa using hat) HA.out
    exact ⟨rfl, R.1, R.2.1, _, R.2.2⟩

/-! ### asking for a type -/

theorem Try.zero38 (w : World) : (zeroValue 38).run Try.prog w = .ok (.pointer none) w := by kernel_rfl

set_option maxHeartbeats 1000000 in
/-- the name is declared -/
theorem declared_hit (B : Nat) (w : World) (c r b : Nat) (F : ByteArray → Option Nat) (v : Value) (ds : List DG) (s : ByteArray) (l k : Int) (h : Chk B w c r F v ds) (hs : F s = some b) :
    Calls Try.prog 24 #[.pointer (some ⟨c, 0, none⟩), .string s, .agg #[.int .i64 l, .int .i64 k]] w fun e w' => e = .returned (.pointer (some ⟨b, 0, none⟩)) ∧ Below w.heap.size w w' := by
  obtain ⟨r1, r2, hc⟩ := h.chk
  have hb : Below w.heap.size w (w.alloc (.cells #[.int .i64 l, .int .i64 k] 43)) := (Below.refl _ _).alloc (Nat.le_refl _) _
  have hrun := (h.map.of_block (hb.block _ h.map.lt)).look_some (P := Try.prog) Try.underlying56 Try.underlying9 (s := s) (v := .pointer (some ⟨b, 0, none⟩)) (by rw [hs]; rfl)
  have e0 : (w.alloc (.cells #[.int .i64 l, .int .i64 k] 43)).cell? ⟨c, 0, none⟩ = some (.map (some r)) := by rw [World.cell?_of_block (w := w) (hb.block c (heap_lt hc)), cell_of_row w c 0 _ _ _ hc]; rfl
  clear h hc hs
  go_enter Try.func24, Try.ntmps24
  go_wp2
  go_ret
  exact ⟨rfl, hb⟩

set_option maxHeartbeats 1000000 in
/-- it is not: one more diagnostic -/
theorem declared_miss (B : Nat) (w : World) (c r : Nat) (F : ByteArray → Option Nat) (v : Value) (ds : List DG) (s : ByteArray) (l k : Int) (h : Chk B w c r F v ds) (hB : B ≤ w.heap.size) (hn : ds.length ≤ 1000000) (hs : F s = none) :
    Calls Try.prog 24 #[.pointer (some ⟨c, 0, none⟩), .string s, .agg #[.int .i64 l, .int .i64 k]] w fun e w' => e = .returned (.pointer none) ∧ Below B w w' ∧ Keeps w w' ∧ ∃ v' a, Chk B w' c r F v' (ds ++ [⟨l, k, s, a⟩]) := by
  obtain ⟨r1, r2, hc⟩ := h.chk
  have hb : Below w.heap.size w (w.alloc (.cells #[.int .i64 l, .int .i64 k] 43)) := (Below.refl _ _).alloc (Nat.le_refl _) _
  have hrun := (h.map.of_block (hb.block _ h.map.lt)).look_none (P := Try.prog) Try.underlying56 Try.underlying9 (s := s) (Try.zero38 _) (by rw [hs]; rfl)
  have e0 : (w.alloc (.cells #[.int .i64 l, .int .i64 k] 43)).cell? ⟨c, 0, none⟩ = some (.map (some r)) := by rw [World.cell?_of_block (w := w) (hb.block c (heap_lt hc)), cell_of_row w c 0 _ _ _ hc]; rfl
  clear hc hs
  have HH : Hid (Chk B w c r F v ds) := h
  clear h
  go_enter Try.func24, Try.ntmps24
  go_wp2_with fail
  have hb2 : Below w.heap.size w ((w.alloc (.cells #[.int .i64 l, .int .i64 k] 43)).alloc (.cells #[.iface 9 (.string s)] 20)) := hb.alloc hb.size _
  refine (errorf_any B _ c r F v ds ⟨l, k, s, w.heap.size + 1⟩ (HH.out.below hb2) (Nat.le_trans hB hb2.size) hn (heap_alloc2_new w _ _)).mono ?_
  rintro e w1 ⟨rfl, hb3, hk3, v', hv⟩
  have hb4 : Below B w w1 := (hb2.mono hB).trans hb3
  have hk4 : Hid (Keeps w w1) := (keeps_of_below hb2).trans hk3
  clear hrun e0 hb hb2 hb3 hk3
  go_wp2_with fail
  go_ret
  exact ⟨rfl, hb4, hk4.out, v', _, hv⟩

set_option maxHeartbeats 1000000 in
theorem zzDeclared_hit (B : Nat) (w : World) (c r b : Nat) (F : ByteArray → Option Nat) (v : Value) (ds : List DG) (s : ByteArray) (l k : Int) (h : Chk B w c r F v ds) (hs : F s = some b) :
    Calls Try.prog 16 #[.pointer (some ⟨c, 0, none⟩), .string s, .agg #[.int .i64 l, .int .i64 k]] w fun e w' => e = .returned (.pointer (some ⟨b, 0, none⟩)) ∧ Below w.heap.size w w' := by
  have hb : Below w.heap.size w (w.alloc (.cells #[.int .i64 l, .int .i64 k] 43)) := (Below.refl _ _).alloc (Nat.le_refl _) _
  go_enter Try.func16, Try.ntmps16
  go_wp2_with fail
  refine (declared_hit B _ c r b F v ds s l k (h.below hb) hs).mono ?_
  rintro e w1 ⟨rfl, hb1⟩
  go_wp2_with fail
  go_ret
  exact ⟨rfl, hb.trans (hb1.mono hb.size)⟩

set_option maxHeartbeats 1000000 in
theorem zzDeclared_miss (B : Nat) (w : World) (c r : Nat) (F : ByteArray → Option Nat) (v : Value) (ds : List DG) (s : ByteArray) (l k : Int) (h : Chk B w c r F v ds) (hB : B ≤ w.heap.size) (hn : ds.length ≤ 1000000) (hs : F s = none) :
    Calls Try.prog 16 #[.pointer (some ⟨c, 0, none⟩), .string s, .agg #[.int .i64 l, .int .i64 k]] w fun e w' => e = .returned (.pointer none) ∧ Below B w w' ∧ Keeps w w' ∧ ∃ v' a, Chk B w' c r F v' (ds ++ [⟨l, k, s, a⟩]) := by
  have hb : Below w.heap.size w (w.alloc (.cells #[.int .i64 l, .int .i64 k] 43)) := (Below.refl _ _).alloc (Nat.le_refl _) _
  go_enter Try.func16, Try.ntmps16
  go_wp2_with fail
  refine (declared_miss B _ c r F v ds s l k (h.below hb) (Nat.le_trans hB hb.size) hn hs).mono ?_
  rintro e w1 ⟨rfl, hb1, hk1, hv⟩
  have hk4 : Hid (Keeps w w1) := (keeps_of_below hb).trans hk1
  clear hk1
  go_wp2_with fail
  go_ret
  exact ⟨rfl, (hb.mono hB).trans hb1, hk4.out, hv⟩

/-! ### reading -/

theorem typName_any (w : World) (b : Nat) (s : ByteArray) (h : w.heap[b]? = some (.cells (typCells s) 66 (0, 0))) :
    Calls Try.prog 17 #[.pointer (some ⟨b, 0, none⟩)] w fun e w' => e = .returned (.string s) ∧ w' = w := by
  have e1 : w.cell? ⟨b, 1, none⟩ = some (.string s) := by rw [cell_of_row w b 1 _ _ _ h]; rfl
  clear h
  go_enter Try.func17, Try.ntmps17
  go_wp2
  go_ret
  exact ⟨rfl, rfl⟩

theorem typKind_any (w : World) (b : Nat) (s : ByteArray) (h : w.heap[b]? = some (.cells (typCells s) 66 (0, 0))) :
    Calls Try.prog 18 #[.pointer (some ⟨b, 0, none⟩)] w fun e w' => e = .returned (.int .i64 8) ∧ w' = w := by
  have e1 : w.cell? ⟨b, 0, none⟩ = some (.int .i64 8) := by rw [cell_of_row w b 0 _ _ _ h]; rfl
  clear h
  go_enter Try.func18, Try.ntmps18
  go_wp2
  go_ret
  exact ⟨rfl, rfl⟩

theorem diagCount_any (B : Nat) (w : World) (c r : Nat) (F : ByteArray → Option Nat) (v : Value) (ds : List DG) (h : Chk B w c r F v ds) :
    Calls Try.prog 19 #[.pointer (some ⟨c, 0, none⟩)] w fun e w' => e = .returned (.int .i64 ds.length) ∧ w' = w := by
  obtain ⟨r1, r2, hc⟩ := h.chk
  have e4 : w.cell? ⟨c, 4, none⟩ = some v := by rw [cell_of_row w c 4 _ _ _ hc]; rfl
  rcases h.own.2 with ⟨hv, hl⟩ | ⟨g, cap, cur, hv, _⟩
  · subst hv
    clear h hc
    go_enter Try.func19, Try.ntmps19
    go_wp2
    go_ret
    exact ⟨by rw [hl]; rfl, rfl⟩
  · subst hv
    clear h hc
    go_enter Try.func19, Try.ntmps19
    go_wp2
    go_ret
    exact ⟨rfl, rfl⟩

theorem flat5_at (ds : List DG) (i : Nat) (d : DG) (hd : ds[i]? = some d) : ∀ j, j < 5 → (ds.flatMap DG.cells)[i * 5 + j]? = d.cells[j]? := by
  induction ds generalizing i with
  | nil => simp at hd
  | cons x xs ih =>
    intro j hj
    have hx : x.cells.length = 5 := rfl
    rw [List.flatMap_cons]
    cases i with
    | zero =>
      simp at hd
      subst hd
      rw [List.getElem?_append_left (by omega), Nat.zero_mul, Nat.zero_add]
    | succ i =>
      simp at hd
      rw [List.getElem?_append_right (by omega), show (i + 1) * 5 + j - x.cells.length = i * 5 + j by omega]
      exact ih i hd j hj

set_option maxHeartbeats 1000000 in
theorem diagAt_any (B : Nat) (w : World) (c r : Nat) (F : ByteArray → Option Nat) (v : Value) (ds : List DG) (i : Nat) (d : DG) (h : Chk B w c r F v ds) (hd : ds[i]? = some d) :
    Calls Try.prog 20 #[.pointer (some ⟨c, 0, none⟩), .int .i64 i] w fun e w' => e = .returned (.agg #[.int .i64 d.l, .int .i64 d.c, .int .i64 0, .string fmtText, .slice (some ⟨d.a, 0, none⟩) 1 1]) ∧ Below w.heap.size w w' := by
  obtain ⟨r1, r2, hc⟩ := h.chk
  have hi : i < ds.length := (List.getElem?_eq_some_iff.1 hd).1
  have lc := heap_lt hc
  obtain ⟨g, cap, rfl, _, lg⟩ := h.own.form (by omega)
  have hf := flat5_at ds i d hd
  have cell : ∀ j, j < 5 → w.cell? ⟨g, i * 5 + j, none⟩ = d.cells[j]? := fun j hj => (h.own.cellAt _ (by omega)).trans (hf j hj)
  have old : ∀ o, ∀ b k, b < w.heap.size → (w.alloc o).cell? ⟨b, k, none⟩ = w.cell? ⟨b, k, none⟩ := fun o b k hb => World.cell?_of_block (w := w) (Below.heap_alloc w o b hb)
  have e4 : ∀ o, (w.alloc o).cell? ⟨c, 4, none⟩ = some (.slice (some ⟨g, 0, none⟩) ds.length cap) := by intro o; rw [old o c 4 lc, cell_of_row w c 4 _ _ _ hc]; rfl
  have c0 : ∀ o, (w.alloc o).cell? ⟨g, i * 5, none⟩ = some (.int .i64 d.l) := by intro o; rw [old o g _ lg]; exact cell 0 (by omega)
  have c1 : ∀ o, (w.alloc o).cell? ⟨g, i * 5 + 1, none⟩ = some (.int .i64 d.c) := by intro o; rw [old o g _ lg]; exact cell 1 (by omega)
  have c2 : ∀ o, (w.alloc o).cell? ⟨g, i * 5 + 2, none⟩ = some (.int .i64 0) := by intro o; rw [old o g _ lg]; exact cell 2 (by omega)
  have c3 : ∀ o, (w.alloc o).cell? ⟨g, i * 5 + 3, none⟩ = some (.string fmtText) := by intro o; rw [old o g _ lg]; exact cell 3 (by omega)
  have c4 : ∀ o, (w.alloc o).cell? ⟨g, i * 5 + 4, none⟩ = some (.slice (some ⟨d.a, 0, none⟩) 1 1) := by intro o; rw [old o g _ lg]; exact cell 4 (by omega)
  have ii : (i : Int) < (ds.length : Int) := by omega
  clear old cell hf hd hc h
  go_enter Try.func20, Try.ntmps20
  go_wp2
  refine bodyPost_ret (v := .agg #[.int .i64 d.l, .int .i64 d.c, .int .i64 0, .string fmtText, .slice (some ⟨d.a, 0, none⟩) 1 1]) (by simp [results, Try.results20, go_sem]) rfl ⟨rfl, ?_⟩
  exact (Below.refl _ _).alloc (Nat.le_refl _) _

theorem diagArgCount_any (w : World) (l k : Int) (a : Nat) :
    Calls Try.prog 21 #[.agg #[.int .i64 l, .int .i64 k, .int .i64 0, .string fmtText, .slice (some ⟨a, 0, none⟩) 1 1]] w fun e w' => e = .returned (.int .i64 1) ∧ Below w.heap.size w w' := by
  go_enter Try.func21, Try.ntmps21
  go_wp2
  go_ret
  exact ⟨rfl, (Below.refl _ _).alloc (Nat.le_refl _) _⟩

theorem assert9 (s : ByteArray) (w : World) : (Instr.typeAssert (.iface 9 (.string s)) 20 9 true).run Try.prog w = .ok (.tuple #[.string s, .bool true]) w := by kernel_rfl

set_option maxHeartbeats 1000000 in
theorem diagArgString_any (w : World) (l k : Int) (a : Nat) (s : ByteArray) (h : w.heap[a]? = some (.cells #[.iface 9 (.string s)] 20 (0, 0))) :
    Calls Try.prog 22 #[.agg #[.int .i64 l, .int .i64 k, .int .i64 0, .string fmtText, .slice (some ⟨a, 0, none⟩) 1 1], .int .i64 0] w fun e w' => e = .returned (.tuple #[.string s, .bool true]) ∧ Below w.heap.size w w' := by
  have la := heap_lt h
  have e0 : ∀ o, (w.alloc o).cell? ⟨a, 0, none⟩ = some (.iface 9 (.string s)) := by intro o; rw [World.cell?_of_block (w := w) (Below.heap_alloc w o a la), cell_of_row w a 0 _ _ _ h]; rfl
  have hta := assert9 s
  clear h
  go_enter Try.func22, Try.ntmps22
  go_wp2
  go_ret2
  exact ⟨rfl, (Below.refl _ _).alloc (Nat.le_refl _) _⟩
end Go.Proofs.Qxb6614573a
