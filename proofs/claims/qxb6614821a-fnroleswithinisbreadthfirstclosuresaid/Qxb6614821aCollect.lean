import Derived.Test.Qxb6614821aWithin
namespace Go.Proofs.Qxb6614821a
open Go.RowKit Go.Shelf
attribute [local go_sem] Oper.semAt_some

/-- what the search leaves, told from the collector's start -/
def SeqPost (rs n r : Nat) (Len : Nat → Nat) (R : Nat → Nat → Nat) (w : World) (e : Ending) (W' : World) : Prop :=
  ∃ g cap xs, e = .returned (.slice (some ⟨g, 0, none⟩) xs.length cap) ∧ Got w.heap.size n r Len R W' g cap xs ∧ Turn (Mine w.heap.size rs) w W'

section
variable {rs b1 b2 b3 b4 bc bR bA n r : Nat} {A A' : Nat → Option Addr} {Len C L' C' : Nat → Nat} {R : Nat → Nat → Nat}

theorem mine_alloc (w : World) (n₀ rs : Nat) (o1 o2 o3 : Obj) : Turn (Mine n₀ rs) w (((w.alloc o1).alloc o2).alloc o3) := ((Turn.alloc _ w o1).trans (Turn.alloc _ _ o2)).trans (Turn.alloc _ _ o3)

set_option maxRecDepth 100000 in
set_option maxHeartbeats 2000000 in
theorem appendSeq (w : World) (hr : r < n) (hn : n ≤ 4096) (hLen : ∀ a, a < n → Len a ≤ 1048576) (hR : ∀ a, a < n → ∀ j, j < Len a → R a j < n)
    (env : Env w.heap.size rs b1 b2 b3 b4 bc bR bA n r A A' Len C L' C' R w) (seen : SeenIs w rs []) :
    Calls Try.prog 12 #[.slice none 0 0, .func (.func 13) #[] #[.pointer (some ⟨b1, 0, none⟩), .pointer (some ⟨b2, 0, none⟩), .pointer (some ⟨b3, 0, none⟩), .pointer (some ⟨b4, 0, none⟩)]] w fun e W' =>
      SeqPost rs n r Len R w e W' := by
  obtain ⟨i0, hi, hz0, hz1, hz2⟩ := info_parts Try.info29
  refine (callsIn_wide (n := 5)).1 ?_
  refine callsIn_of_wp_marks Try.func12 rfl trivial ?_ rfl
  simp only [Try.ntmps12, List.size_toArray, List.length_cons, List.length_nil, Nat.reduceAdd, Nat.reduceSub, Array.replicate_succ, Array.replicate_zero, List.push_toArray, List.append_toArray, List.nil_append, List.cons_append]
  gi_wp2
  have bO := Boxed.new w 27 (.slice none 0 0)
  refine wpIn_rangeFunc_coll (gf := 13) (lb := #[.pointer (some ⟨b1, 0, none⟩), .pointer (some ⟨b2, 0, none⟩), .pointer (some ⟨b3, 0, none⟩), .pointer (some ⟨b4, 0, none⟩)]) rfl (enters_of Try.func13 (by kernel_rfl) rfl) rfl
    (N := n) (n₀ := w.heap.size) (B := w.heap.size) (v0 := .slice none 0 0) ⟨bO, World.ownsRow_nil _ _ _ _⟩ (fun xs W => Bfs n r Len R xs xs.length 0 ∧ Turn (Mine w.heap.size rs) w W) ?hS ?hseq
    (fun x => { tmps := #[.slice none 0 0, .func (.func 13) #[] #[.pointer (some ⟨b1, 0, none⟩), .pointer (some ⟨b2, 0, none⟩), .pointer (some ⟨b3, 0, none⟩), .pointer (some ⟨b4, 0, none⟩)], .pointer (some ⟨w.heap.size, 0, none⟩), undef, .slice none 0 0, .int .i32 (x : Int), .func (.func 13) #[] #[.pointer (some ⟨b1, 0, none⟩), .pointer (some ⟨b2, 0, none⟩), .pointer (some ⟨b3, 0, none⟩), .pointer (some ⟨b4, 0, none⟩)], .int .i32 (x : Int), undef, undef, undef, undef, undef], defers := [] }) ?assign ?body ?done
  case hS =>
    rintro xs W o ⟨h1, h2⟩
    exact ⟨h1, h2.trans (Turn.putObj _ _ (.inl (by simp; omega)))⟩
  case hseq =>
    intro lp hc hY
    have ht := mine_alloc w w.heap.size rs (.cells #[.slice none 0 0] 27) (.deferred (some [])) (.loop lp)
    refine (within1 4 _ (.slice none 0 0) hr hn (by simp; omega) hLen hR (env.turn ht) ⟨hc, ?_, World.ownsRow_nil _ _ _ _, .inl rfl, by simp; omega, ⟨seen.lt, Nat.le_refl _⟩, Turn.refl _ _⟩ hY).mono ?_
    · refine seen.of_block ?_
      have := seen.lt
      exact ((Below.heap_alloc _ _ rs (by simp; omega)).trans (Below.heap_alloc _ _ rs (by simp; omega))).trans (Below.heap_alloc _ _ rs this)
    · rintro e W' ⟨hu, v, xs, ⟨hb, ht'⟩, hcr⟩
      exact ⟨hu, v, xs, ⟨hb, ht.trans ht'⟩, hcr⟩
  case assign =>
    intro l x W K hK
    gi_wp2
    exact hK
  case body =>
    rintro l v pre x W ⟨hv, hrow⟩ hlt hsz
    have hc := hv.cell
    have hsz' : w.heap.size + 1 ≤ W.heap.size := by simpa using hsz
    clear hsz
    gi_wp2_with (gi_at_builtin; refine wpListIn_append_own_at _ rfl _ _ 27 rfl w.heap.size 29 i0 (.int .i32 0) 1 4 Try.underlying27 hi hz0 hz1 hz2 rfl (by decide) _ _ _ rfl (hrow.alloc _) ⟨W.heap.size, 0, none⟩ 1 1 [.int .i32 (x : Int)] rfl rfl (cell_one_new _ _ _) (by simp [Value.oneCell']) (by unfold maxLen; omega) (by omega) (by simp; omega) ?_; intro v' w1 hown' hgrow _ hat; obtain ⟨g', cap', rfl⟩ := ownsRow_succ hown'; obtain ⟨hv1, hv2, hr2, hk2, hb2⟩ := hv.appended (by decide) hrow (by omega) (Nat.le_refl _) hown' hgrow; have hc1 := hv1.cell; have hf1 := hv1.frozen)
    refine ⟨_, ⟨hv2, by simpa using hr2⟩, ((Turn.alloc _ W _).trans (Turn.of_grownBy hgrow (fun k e => .inr e.symm))).trans (Turn.setCell _ _ (.inl rfl)), ?_⟩
    rcases hat with e | e
    · exact .inl e
    · exact .inr ⟨_, e, by simp⟩
  case done =>
    rintro v xs W ⟨hb, ht⟩ ⟨hv, hrow⟩ hK
    obtain ⟨k, hk⟩ : ∃ k, xs.length = k + 1 := ⟨xs.length - 1, by have := hb.1; omega⟩
    rw [hk] at hrow
    obtain ⟨g, cap, rfl⟩ := ownsRow_succ hrow
    rw [← hk] at hrow hv
    clear hk
    have hc := hv.cell
    gi_wp2
    refine ⟨by simp, .inl ⟨_, _, rfl, run_takeDeferred hK, ?_⟩⟩
    exact ⟨_, results_tmp rfl _ _ _, g, cap, xs, rfl, ⟨hb, ownsRow_putObj hrow _ hK rfl⟩, ht.trans (Turn.putObj _ _ (.inl (by simp)))⟩

set_option maxHeartbeats 1000000 in
theorem within11 (w : World) :
    Calls Try.prog 11 #[.pointer (some ⟨bc, 0, none⟩), .int .i32 (r : Int), .bool true, .map (some rs)] w fun e w' =>
      e = .returned (.func (.func 13) #[] #[.pointer (some ⟨w.heap.size + 3, 0, none⟩), .pointer (some ⟨w.heap.size + 1, 0, none⟩), .pointer (some ⟨w.heap.size, 0, none⟩), .pointer (some ⟨w.heap.size + 2, 0, none⟩)]) ∧
      w' = (((w.alloc (.cells #[.pointer (some ⟨bc, 0, none⟩)] 32)).alloc (.cells #[.int .i32 (r : Int)] 29)).alloc (.cells #[.bool true] 4)).alloc (.cells #[.map (some rs)] 53) := by
  go_enter Try.func11, Try.ntmps11
  go_wp2
  go_ret
  exact ⟨rfl, rfl⟩

set_option maxHeartbeats 1000000 in
theorem collect10 (w : World) (hr : r < n) (hn : n ≤ 4096) (hLen : ∀ a, a < n → Len a ≤ 1048576) (hR : ∀ a, a < n → ∀ j, j < Len a → R a j < n)
    (env : Env w.heap.size rs b1 b2 b3 b4 bc bR bA n r A A' Len C L' C' R w) (seen : SeenIs w rs []) :
    Calls Try.prog 10 #[.func (.func 13) #[] #[.pointer (some ⟨b1, 0, none⟩), .pointer (some ⟨b2, 0, none⟩), .pointer (some ⟨b3, 0, none⟩), .pointer (some ⟨b4, 0, none⟩)]] w fun e W' => SeqPost rs n r Len R w e W' := by
  go_enter Try.func10, Try.ntmps10
  go_wp2_with fail
  refine (appendSeq w hr hn hLen hR env seen).mono ?_
  rintro e w1 ⟨g, cap, xs, rfl, hgot, ht⟩
  go_wp2_with fail
  go_ret
  exact ⟨g, cap, xs, rfl, hgot, ht⟩

/-- the world in which the iterator has been made -/
def made (w : World) (bc r : Nat) : World :=
  (((((w.alloc (.map #[] 0)).alloc (.cells #[.pointer (some ⟨bc, 0, none⟩)] 32)).alloc (.cells #[.int .i32 (r : Int)] 29)).alloc (.cells #[.bool true] 4)).alloc (.cells #[.map (some w.heap.size)] 53))

theorem made_size (w : World) (bc r : Nat) : (made w bc r).heap.size = w.heap.size + 5 := by simp [made]
theorem made_below (w : World) (bc r : Nat) : Below w.heap.size w (made w bc r) :=
  (((((Below.refl _ w).alloc (Nat.le_refl _) _).alloc (by simp) _).alloc (by simp; omega) _).alloc (by simp; omega) _).alloc (by simp; omega) _

theorem made_seen (w : World) (bc r : Nat) : SeenIs (made w bc r) w.heap.size [] := by
  refine (seenIs_made w).of_block ?_
  exact (((Below.heap_alloc _ _ _ (by simp; omega)).trans (Below.heap_alloc _ _ _ (by simp; omega))).trans (Below.heap_alloc _ _ _ (by simp; omega))).trans (Below.heap_alloc _ _ _ (by simp))

theorem made_env (w : World) (h8 : w.cell? ⟨bc, 8, none⟩ = some (.slice (some ⟨bR, 0, none⟩) n n)) (h9 : w.cell? ⟨bc, 9, none⟩ = some (.slice (some ⟨bA, 0, none⟩) n n)) (hr : Reads bR bA n A A' Len C L' C' R w) :
    Env (made w bc r).heap.size w.heap.size (w.heap.size + 1 + 3) (w.heap.size + 1 + 1) (w.heap.size + 1) (w.heap.size + 1 + 2) bc bR bA n r A A' Len C L' C' R (made w bc r) := by
  have hs := made_size w bc r
  have old : ∀ {b o : Nat} {v : Value}, w.cell? ⟨b, o, none⟩ = some v → Fix (made w bc r).heap.size w.heap.size (made w bc r) b o v := fun {b o v} h => by
    have hlt : b < w.heap.size := World.block_lt_of_cell? w ⟨b, o, none⟩ h
    exact ⟨((made_below w bc r).cell (p := ⟨b, o, none⟩) hlt).trans h, by omega, by omega⟩
  have x1 := Boxed.new (w.alloc (.map #[] 0)) 32 (.pointer (some ⟨bc, 0, none⟩))
  have x2 := Boxed.new ((w.alloc (.map #[] 0)).alloc (.cells #[.pointer (some ⟨bc, 0, none⟩)] 32)) 29 (.int .i32 (r : Int))
  have x3 := Boxed.new (((w.alloc (.map #[] 0)).alloc (.cells #[.pointer (some ⟨bc, 0, none⟩)] 32)).alloc (.cells #[.int .i32 (r : Int)] 29)) 4 (.bool true)
  have x4 := Boxed.new ((((w.alloc (.map #[] 0)).alloc (.cells #[.pointer (some ⟨bc, 0, none⟩)] 32)).alloc (.cells #[.int .i32 (r : Int)] 29)).alloc (.cells #[.bool true] 4)) 53 (.map (some w.heap.size))
  simp only [World.size_alloc] at x1 x2 x3 x4
  refine ⟨⟨x4.cell, by omega, by omega⟩, ⟨((x2.alloc _).alloc _).cell, by omega, by omega⟩, ⟨(((x1.alloc _).alloc _).alloc _).cell, by omega, by omega⟩, ⟨(x3.alloc _).cell, by omega, by omega⟩, old h8, old h9, fun v hv => old (hr.lists v hv), fun v hv => old (hr.others v hv), fun v hv => ?_⟩
  obtain ⟨b, off, h1, h2⟩ := hr.items v hv
  exact ⟨b, off, h1, fun j hj => old (h2 j hj)⟩

set_option maxHeartbeats 1000000 in
theorem rolesWithin9 (w : World) (hr : r < n) (hn : n ≤ 4096) (hLen : ∀ a, a < n → Len a ≤ 1048576) (hR : ∀ a, a < n → ∀ j, j < Len a → R a j < n)
    (h8 : w.cell? ⟨bc, 8, none⟩ = some (.slice (some ⟨bR, 0, none⟩) n n)) (h9 : w.cell? ⟨bc, 9, none⟩ = some (.slice (some ⟨bA, 0, none⟩) n n)) (hrd : Reads bR bA n A A' Len C L' C' R w) :
    Calls Try.prog 9 #[.pointer (some ⟨bc, 0, none⟩), .int .i32 (r : Int)] w fun e W' => SearchPost n r Len R w e W' := by
  have hmm := @run_makeMap Try.prog
  have env := made_env (r := r) w h8 h9 hrd
  clear h8 h9 hrd
  go_enter Try.func9, Try.ntmps9
  go_wp2_with fail
  clear hmm
  refine (within11 (bc := bc) (r := r) (rs := w.heap.size) (w.alloc (.map #[] 0))).mono ?_
  rintro e w1 ⟨rfl, hw1⟩
  have hw1' : w1 = made w bc r := hw1
  clear hw1
  subst hw1'
  rw [World.size_alloc]
  go_wp2_with fail
  refine (collect10 (made w bc r) hr hn hLen hR env (made_seen w bc r)).mono ?_
  rintro e w2 ⟨g, cap, xs, rfl, hgot, ht⟩
  have hfin : SearchPost n r Len R w (.returned (.slice (some ⟨g, 0, none⟩) xs.length cap)) w2 := by
    refine ⟨g, cap, xs, rfl, ⟨hgot.1, ?_⟩, ?_⟩
    · rcases hgot.2.2 with ⟨e, _⟩ | ⟨g', cap', cur, e, q1, q2⟩
      · cases e
      · have hs := made_size w bc r
        exact ⟨hgot.2.1, .inr ⟨g', cap', cur, e, by omega, q2⟩⟩
    · have hb := made_below w bc r
      have hs := made_size w bc r
      refine hb.trans ⟨ht.os, ht.tape, ht.output, ht.size, fun k hk => ht.block k (by omega) ?_⟩
      unfold Mine
      omega
  clear hgot ht env
  go_wp2_with fail
  go_ret
  exact hfin
end

theorem cell_made (w : World) (cs : Array Value) (t : TypeId) (i : Nat) : (w.alloc (.cells cs t)).cell? ⟨w.heap.size, i, none⟩ = cs[i]? := by
  have h : (w.alloc (.cells cs t)).heap[w.heap.size]? = some (.cells cs t) := World.alloc_heap_new w _
  simp only [World.cell?, h]
  exact if_neg (by simp)

set_option maxHeartbeats 1000000 in
theorem zz7 : ZzSays := by
  intro bR bA n r A A' Len C L' C' R w hr hn hLen hR hrd
  go_enter Try.func7, Try.ntmps7
  go_wp2_with fail
  refine (rolesWithin9 (bc := w.heap.size) (bR := bR) (bA := bA) (A := A) (A' := A') (C := C) (L' := L') (C' := C') _ hr hn hLen hR ((cell_made _ _ _ _).trans rfl) ((cell_made _ _ _ _).trans rfl) ?_).mono ?_
  · have hb : ∀ o, Below w.heap.size w (w.alloc o) := fun o => (Below.refl _ w).alloc (Nat.le_refl _) o
    refine ⟨fun v hv => ((hb _).cell (World.block_lt_of_cell? _ _ (hrd.lists v hv))).trans (hrd.lists v hv), fun v hv => ((hb _).cell (World.block_lt_of_cell? _ _ (hrd.others v hv))).trans (hrd.others v hv), fun v hv => ?_⟩
    obtain ⟨b, off, h1, h2⟩ := hrd.items v hv
    exact ⟨b, off, h1, fun j hj => ((hb _).cell (World.block_lt_of_cell? _ _ (h2 j hj))).trans (h2 j hj)⟩
  · rintro e w2 ⟨g, cap, xs, rfl, hgot, hb⟩
    have hfin : SearchPost n r Len R w (.returned (.slice (some ⟨g, 0, none⟩) xs.length cap)) w2 := by
      refine ⟨g, cap, xs, rfl, ⟨hgot.1, ?_⟩, ((Below.refl _ w).alloc (Nat.le_refl _) _).trans (hb.mono (by simp))⟩
      rcases hgot.2.2 with ⟨e, _⟩ | ⟨g', cap', cur, e, q1, q2⟩
      · cases e
      · exact ⟨hgot.2.1, .inr ⟨g', cap', cur, e, by rw [World.size_alloc] at q1; omega, q2⟩⟩
    clear hgot hb
    go_wp2_with fail
    go_ret
    exact hfin
end Go.Proofs.Qxb6614821a
