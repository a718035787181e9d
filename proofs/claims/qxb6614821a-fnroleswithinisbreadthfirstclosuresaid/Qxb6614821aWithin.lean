import Derived.Test.Qxb6614821aSays
import Derived.BigRegionIn
namespace Go.Proofs.Qxb6614821a
open Go.RowKit Go.Shelf
attribute [local go_sem] Oper.semAt_some

theorem Try.info29 : (Try.prog.info? 29).map (fun i => (i.zero, i.size, i.bytes)) = some (some (.int .i32 0), 1, 4) := by kernel_rfl

/-- where the search stands: all that has been found has been handed on and is in the map -/
def Here (n₀ rs B l D : Nat) (lp : Loop) (W0 : World) (n r : Nat) (Len : Nat → Nat) (R : Nat → Nat → Nat) (W : World) (v : Value) (ys : List Nat) (g cap k i : Nat) : Prop :=
  St n₀ rs B l D lp W0 W v ys (.slice (some ⟨g, 0, none⟩) ys.length cap) ys ys ∧ Bfs n r Len R ys k i

theorem St.first {n₀ rs B l D : Nat} {lp : Loop} {W0 W : World} {v : Value} {pre zs : List Nat} {r : Nat} (h : St n₀ rs B l D lp W0 W v pre (.slice none 0 0) [] zs) :
    St n₀ rs B l D lp W0 (W.alloc (.cells #[.int .i32 (r : Int)] 29)) v pre (.slice (some ⟨W.heap.size, 0, none⟩) 1 1) [r] zs := by
  have h' := h.alloc (.cells #[.int .i32 (r : Int)] 29)
  refine ⟨h'.coll, h'.seen, ⟨by simp [vals], .inr ⟨W.heap.size, 1, _, rfl, h.big, World.alloc_heap_new W _, Nat.le_refl _, by unfold maxLen; omega, rfl, by simp [vals]⟩⟩, ?_, h'.big, h'.low, h'.turn⟩
  refine .inr ?_
  intro q
  have := (h.coll.1.row.lt W.heap.size q.symm).2
  omega

theorem cell_two (w : World) (a b : Value) (t : TypeId) : (w.alloc (.cells #[a, b] t)).drew.cell? ⟨w.heap.size, 0, none⟩ = some a := by
  have h : (w.alloc (.cells #[a, b] t)).drew.heap[w.heap.size]? = some (.cells #[a, b] t) := World.alloc_heap_new w _
  simp only [World.cell?, h]
  rfl

/-- inside the list of role x, the k-th found -/
def Inn (n₀ rs B l D : Nat) (lp : Loop) (W0 : World) (n r : Nat) (Len : Nat → Nat) (R : Nat → Nat → Nat) (W : World) (v : Value) (ys : List Nat) (g cap k i x : Nat) : Prop :=
  Here n₀ rs B l D lp W0 n r Len R W v ys g cap k i ∧ ix ys k = x ∧ k < ys.length

/-- ahead of the one list (j = 0) or behind it (j = 1) -/
def Mid (n₀ rs B l D : Nat) (lp : Loop) (W0 : World) (n r : Nat) (Len : Nat → Nat) (R : Nat → Nat → Nat) (W : World) (v : Value) (ys : List Nat) (g cap k : Nat) (j : Int) (x bl : Nat) (u : Value) : Prop :=
  Inn n₀ rs B l D lp W0 n r Len R W v ys g cap k (if j = 0 then 0 else Len x) x ∧ (j = 0 → W.cell? ⟨bl, 0, none⟩ = some u)

section
variable {n₀ rs b1 b2 b3 b4 bc bR bA n r : Nat} {A A' : Nat → Option Addr} {Len C L' C' : Nat → Nat} {R : Nat → Nat → Nat} {B l D : Nat} {lp : Loop}

set_option maxRecDepth 100000 in
set_option maxHeartbeats 4000000 in
theorem within1 (m : Nat) (W : World) (v0 : Value) (hr : r < n) (hn : n ≤ 4096) (hl : n₀ ≤ l) (hLen : ∀ a, a < n → Len a ≤ 1048576) (hR : ∀ a, a < n → ∀ j, j < Len a → R a j < n)
    (env : Env n₀ rs b1 b2 b3 b4 bc bR bA n r A A' Len C L' C' R W) (st : St n₀ rs B l D lp W W v0 [] (.slice none 0 0) [] []) (hY : Round Try.prog (m - 1) n₀ B l D lp n) :
    CallsIn Fence.wide m Try.prog 13 #[.func (.yield l) #[] #[], .pointer (some ⟨b1, 0, none⟩), .pointer (some ⟨b2, 0, none⟩), .pointer (some ⟨b3, 0, none⟩), .pointer (some ⟨b4, 0, none⟩)] W fun e W' =>
      (∃ u, e = .returned u) ∧ ∃ v xs, (Bfs n r Len R xs xs.length 0 ∧ Turn (Mine n₀ rs) W W') ∧ CollR n₀ B l D lp v xs W' := by
  obtain ⟨i0, hi, hz0, hz1, hz2⟩ := info_parts Try.info29
  refine callsIn_of_wp Try.func13 rfl trivial ?_ rfl
  simp only [Try.ntmps13, List.size_toArray, List.length_cons, List.length_nil, Nat.reduceAdd, Nat.reduceSub, Array.replicate_succ, Array.replicate_zero, List.push_toArray, List.append_toArray, List.nil_append, List.cons_append]
  have c1 := env.seen.cell
  have c2 := env.p.cell
  obtain ⟨W1, hrun1, hs1, hg1⟩ := st.seen.store (P := Try.prog) (T := 53) (K := 29) (E := 4) Try.underlying53 Try.underlying29 (m := r) (by simp)
  have st1 := st.stored hs1 hg1
  have env1 := env.turn st1.turn
  have c21 := env1.p.cell
  obtain ⟨fn, tmps, assign, body, hy, hRd⟩ := hY v0 [] r W1 st1.coll (by simp; omega)
  gi_wp2
  refine ⟨fun h => (by cases h), hRd.mono ?_⟩
  clear hRd hy
  rintro e W2 ⟨rfl, v1, hc1, ht1, hv1⟩
  have st2 := st1.yielded hl hc1 ht1 hv1
  have st3 := st2.first (r := r)
  have env2 := env.turn st2.turn
  have c22 := env2.p.cell
  have here : Here n₀ rs B l D lp W n r Len R (W2.alloc (.cells #[.int .i32 (r : Int)] 29)) v1 [r] W2.heap.size 1 0 0 := ⟨st3, bfs_start hr⟩
  clear c1 c2 hrun1 hs1 hg1 st1 env1 c21 hc1 ht1 hv1 st2 st3
  gi_wp2
  clear c22 env2
  gi_loopw [6, 7] (fun f i wr => ∃ (k : Nat) (v : Value) (ys : List Nat) (g cap : Nat), i = .int .i64 k ∧ f = .slice (some ⟨g, 0, none⟩) ys.length cap ∧ k ≤ ys.length ∧ Here n₀ rs B l D lp W n r Len R wr v ys g cap k 0) (fun _ i _ => n - (intOf i).toNat)
  case atStart => exact ⟨0, v1, [r], W2.heap.size, 1, rfl, rfl, by simp, here⟩
  case round =>
    obtain ⟨k, v, ys, g, cap, rfl, rfl, hk, hh⟩ := hrel
    clear here
    by_cases hlt : k < ys.length
    · have envk := env.turn hh.1.turn
      have hx : ix ys k < n := hh.2.2.2.2.1 k hlt
      have hlen := hh.2.len
      have c3 := envk.c.cell
      have c4 := envk.only.cell
      have c8 := envk.roles.cell
      have c9 := envk.accts.cell
      have cx := row_cell hh.1.row hlt
      obtain ⟨x, hxe⟩ : ∃ x, ix ys k = x := ⟨_, rfl⟩
      rw [hxe] at hx cx
      obtain ⟨ax, hax⟩ : ∃ ax, A x = ax := ⟨_, rfl⟩
      have cl := (envk.lists _ hx).cell
      have co := (envk.others _ hx).cell
      rw [hax] at cl
      have hax' : Hid (A x = ax) := hax
      clear hax
      have hxe' : Hid (ix ys k = x) := hxe
      have hLx := hLen x hx
      clear hxe
      gi_wp2
      gi_region
      obtain ⟨W5, hW5⟩ : ∃ W5, (wr.alloc (.cells #[.slice ax (Len x) (C x), .slice (A' x) (L' x) (C' x)] 27)).drew = W5 := ⟨_, rfl⟩
      have c5 : W5.cell? ⟨wr.heap.size, 0, none⟩ = some (.slice ax (Len x) (C x)) := by rw [← hW5]; exact cell_two _ _ _ _
      have st5 : St n₀ rs B l D lp W W5 v ys (.slice (some ⟨g, 0, none⟩) ys.length cap) ys ys := by rw [← hW5]; exact (hh.1.alloc _).drew
      have here5 : Mid n₀ rs B l D lp W n r Len R W5 v ys g cap k 0 x wr.heap.size (.slice ax (Len x) (C x)) := ⟨⟨⟨st5, by rw [if_pos rfl]; exact hh.2⟩, hxe'.out, hlt⟩, fun _ => c5⟩
      have c4 := (env.turn st5.turn).only.cell
      rw [hW5]
      clear hW5 c3 c8 c9 cx cl co hh st5 envk c5 hxe'
      gi_wp2
      clear c4
      gi_loopw [6, 53] (fun f q wm => ∃ (j : Int) (v : Value) (ys : List Nat) (g cap : Nat), q = .int .i64 j ∧ f = .slice (some ⟨g, 0, none⟩) ys.length cap ∧ Hid (j = 0 ∨ j = 1) ∧ Mid n₀ rs B l D lp W n r Len R wm v ys g cap k j x wr.heap.size (.slice ax (Len x) (C x))) (fun _ q _ => 1 - (intOf q).toNat)
      case atStart => exact ⟨0, v, ys, g, cap, rfl, rfl, .inl rfl, here5⟩
      case round =>
        obtain ⟨j, v, ys, g, cap, rfl, rfl, hj, hh⟩ := hrel
        clear here5
        rcases hj.out with rfl | rfl
        · clear hj
          have c6 := hh.2 rfl
          have inn := hh.1
          rw [if_pos rfl] at inn
          gi_wp2
          clear c6 hh
          gi_loopw [6, 59] (fun f q wi => ∃ (j : Nat) (v : Value) (ys : List Nat) (g cap : Nat), q = .int .i64 j ∧ f = .slice (some ⟨g, 0, none⟩) ys.length cap ∧ j ≤ Len x ∧ Inn n₀ rs B l D lp W n r Len R wi v ys g cap k j x) (fun _ q _ => Len x - (intOf q).toNat)
          case atStart => exact ⟨0, v, ys, g, cap, rfl, rfl, by omega, inn⟩
          case round =>
            obtain ⟨j, v, ys, g, cap, rfl, rfl, hj, inn⟩ := hrel
            by_cases hjlt : j < Len x
            · have envi := env.turn inn.1.1.turn
              obtain ⟨bI, off, hA, hit⟩ := envi.items x hx
              have hAx : ax = some ⟨bI, off, none⟩ := by rcases hA with h | h; (omega); exact hax'.out.symm.trans h
              subst hAx
              have ci := (hit j hjlt).cell
              have hmn := hR x hx j hjlt
              have hRe : Hid (R x j = R (ix ys k) j) := by show R x j = _; rw [inn.2.1]
              obtain ⟨y, hy0⟩ : ∃ y, R x j = y := ⟨_, rfl⟩
              rw [hy0] at ci hmn
              have hye : Hid (R (ix ys k) j = y) := hRe.out.symm.trans hy0
              have c1 := envi.seen.cell
              have hyl := inn.1.2.len
              clear hy0 hRe hA hit
              by_cases hy : y ∈ ys
              · have hlook := inn.1.1.seen.look_in (P := Try.prog) (T := 53) (K := 29) (E := 4) Try.underlying53 Try.underlying29 hy
                gi_wp2
                go_roundw
                case rel => exact ⟨j + 1, v, ys, g, cap, by go_num, rfl, by omega, ⟨inn.1.1, bfs_seen inn.1.2 (by rw [hye.out]; exact hy)⟩, inn.2⟩
                case measure => simp [intOf]; omega
              · have hlook := inn.1.1.seen.look_out (P := Try.prog) (T := 53) (K := 29) (E := 4) Try.underlying53 Try.underlying29 (Try.zeroValue4 _) hy
                obtain ⟨W6, hrun6, hs6, hg6⟩ := inn.1.1.seen.store (P := Try.prog) (T := 53) (K := 29) (E := 4) Try.underlying53 Try.underlying29 hy
                have st6 := inn.1.1.stored hs6 hg6
                have bfs6 := bfs_new inn.1.2 inn.2.2 (by rw [inn.2.1]; exact hjlt) hye.out hy hmn
                have len6 : Hid (ys.length + 1 ≤ n) := by have := bfs6.len; rw [List.length_append] at this; exact this
                have hylen : ys.length < n := len6.out
                have ixe : Hid (ix (ys ++ [y]) k = x) := by show ix (ys ++ [y]) k = x; rw [ix_app_lt inn.2.2]; exact inn.2.1
                have hklt := inn.2.2
                clear envi hs6 hg6 inn
                gi_wp2_with (gi_at_builtin; refine wpListIn_append_own_at _ rfl _ _ 27 rfl n₀ 29 i0 (.int .i32 0) 1 4 Try.underlying27 hi hz0 hz1 hz2 rfl (by decide) _ _ _ rfl (st6.row.alloc _) ⟨W6.heap.size, 0, none⟩ 1 1 [.int .i32 (y : Int)] rfl rfl (cell_one_new _ _ _) (by simp [Value.oneCell']) (by unfold maxLen; omega) (by omega) (by have := st6.big; simp; omega) ?_; intro v' W7 hown' hgrow _ hat; obtain ⟨g', cap', rfl⟩ := ownsRow_succ hown'; have st7 := (st6.alloc (.cells #[.int .i32 (y : Int)] 29)).appended (ys' := ys ++ [y]) (by simpa [vals] using hown') hgrow hat; obtain ⟨fn, tmps, assign, body, hyy, hRd⟩ := hY v ys y W7 st7.coll hylen)
                refine ⟨fun h => (by cases h), hRd.mono ?_⟩
                clear hRd hyy hown' hgrow hat
                rintro e W8 ⟨rfl, v8, hc8, ht8, hv8⟩
                have st8 := st7.yielded hl hc8 ht8 hv8
                clear hc8 ht8 hv8 st7 st6 hrun6 hlook c1 ci
                gi_wp2
                go_roundw
                case rel => exact ⟨j + 1, v8, ys ++ [y], g', cap', by go_num, by rw [List.length_append]; rfl, by omega, ⟨by rw [List.length_append]; exact st8, bfs6⟩, ixe.out, by rw [List.length_append]; omega⟩
                case measure => simp [intOf]; omega
            · obtain rfl : j = Len x := by omega
              gi_wp2
              go_roundw
              case rel => exact ⟨1, v, ys, g, cap, by go_num, rfl, .inr rfl, ⟨⟨inn.1.1, by rw [if_neg (by omega)]; exact inn.1.2⟩, inn.2⟩, fun h => by omega⟩
              case measure => simp [intOf]
        · clear hj
          have hb := hh.1.1.2
          rw [if_neg (by omega)] at hb
          have hix := hh.1.2.1
          have hlen2 := hb.len
          have hk2 := hh.1.2.2
          have hb2 : Bfs n r Len R ys (k + 1) 0 := by rw [← hix] at hb; exact bfs_next hb
          have st2 := hh.1.1.1
          clear hh hb hix
          gi_wp2
          go_roundw
          case rel => exact ⟨k + 1, v, ys, g, cap, by go_num, rfl, by omega, st2, hb2⟩
          case measure => simp [intOf]; omega
    · gi_wp2
      go_end0
      obtain rfl : k = ys.length := by omega
      exact ⟨⟨_, rfl⟩, v, ys, ⟨hh.2, hh.1.turn⟩, hh.1.coll⟩
end
end Go.Proofs.Qxb6614821a
