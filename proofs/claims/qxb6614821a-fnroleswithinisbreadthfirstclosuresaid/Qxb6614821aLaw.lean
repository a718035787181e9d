import Derived.Test.Qxb6614821aSays
import Derived.Test.Qxb6614821aCopy
import Derived.Test.Qxb6614821aKeys
import Derived.BigQuiet
namespace Go.Proofs.Qxb6614821a
open Go.RowKit

theorem below_step {w w' w'' : World} (h : Below w.heap.size w w') (h' : Below w'.heap.size w' w'') : Below w.heap.size w w'' := h.trans (h'.mono h.size)

theorem Try.info3b : (Try.prog.info? 3).map (fun i => (i.zero, i.size, i.bytes)) = some (some (.int .i64 0), 1, 8) := by kernel_rfl

/-- the law's three rows of numbers, laid from block g on -/
structure Rows3 (w0 : World) (g n : Nat) (F G H : Nat → Int) (W : World) : Prop where
  pos : W.rowIs g 3 n (fun j => .int .i64 (F j))
  keyP : W.rowIs (g + 1) 3 n (fun j => .int .i64 (G j))
  keyI : W.rowIs (g + 2) 3 n (fun j => .int .i64 (H j))
  below : Below w0.heap.size w0 W
  le : w0.heap.size ≤ g

section
variable {w0 W : World} {g n : Nat} {F G H : Nat → Int}
theorem Rows3.set1 (h : Rows3 w0 g n F G H W) (i : Nat) (z : Int) : Rows3 w0 g n (fun j => if j = i then z else F j) G H (W.setCell ⟨g, i, none⟩ (.int .i64 z)) :=
  ⟨(h.pos.set i _).congr (fun j _ => by by_cases e : j = i <;> simp [e]), h.keyP.setOther (show g + 1 ≠ g by omega) _, h.keyI.setOther (show g + 2 ≠ g by omega) _, h.below.setCell h.le _, h.le⟩
theorem Rows3.set2 (h : Rows3 w0 g n F G H W) (i : Nat) (z : Int) : Rows3 w0 g n F (fun j => if j = i then z else G j) H (W.setCell ⟨g + 1, i, none⟩ (.int .i64 z)) :=
  ⟨h.pos.setOther (show g ≠ g + 1 by omega) _, (h.keyP.set i _).congr (fun j _ => by by_cases e : j = i <;> simp [e]), h.keyI.setOther (show g + 2 ≠ g + 1 by omega) _, h.below.setCell (show w0.heap.size ≤ g + 1 by have := h.le; omega) _, h.le⟩
theorem Rows3.set3 (h : Rows3 w0 g n F G H W) (i : Nat) (z : Int) : Rows3 w0 g n F G (fun j => if j = i then z else H j) (W.setCell ⟨g + 2, i, none⟩ (.int .i64 z)) :=
  ⟨h.pos.setOther (show g ≠ g + 2 by omega) _, h.keyP.setOther (show g + 1 ≠ g + 2 by omega) _, (h.keyI.set i _).congr (fun j _ => by by_cases e : j = i <;> simp [e]), h.below.setCell (show w0.heap.size ≤ g + 2 by have := h.le; omega) _, h.le⟩
theorem Rows3.drew (h : Rows3 w0 g n F G H W) : Rows3 w0 g n F G H W.drew := ⟨h.pos, h.keyP, h.keyI, h.below.drew, h.le⟩
theorem Rows3.drewN (h : Rows3 w0 g n F G H W) (m : Nat) : Rows3 w0 g n F G H (W.drewN m) := ⟨h.pos, h.keyP, h.keyI, h.below.trans ⟨rfl, rfl, rfl, Nat.le_refl _, fun _ _ => rfl⟩, h.le⟩
theorem Rows3.congr (h : Rows3 w0 g n F G H W) {F' G' H' : Nat → Int} (e1 : ∀ j, j < n → F j = F' j) (e2 : ∀ j, j < n → G j = G' j) (e3 : ∀ j, j < n → H j = H' j) : Rows3 w0 g n F' G' H' W :=
  ⟨h.pos.congr (fun j hj => by rw [e1 j hj]), h.keyP.congr (fun j hj => by rw [e2 j hj]), h.keyI.congr (fun j hj => by rw [e3 j hj]), h.below, h.le⟩
theorem rows3_made (w0 : World) (n : Nat) : Rows3 w0 w0.heap.size n (fun _ => 0) (fun _ => 0) (fun _ => 0)
    (((w0.alloc (.cells (madeCells #[.int .i64 0] n) 3)).alloc (.cells (madeCells #[.int .i64 0] n) 3)).alloc (.cells (madeCells #[.int .i64 0] n) 3)) := by
  have e1 := World.rowIs_made w0 (.int .i64 0) n 3
  have e2 := World.rowIs_made (w0.alloc (.cells (madeCells #[.int .i64 0] n) 3)) (.int .i64 0) n 3
  have e3 := World.rowIs_made ((w0.alloc (.cells (madeCells #[.int .i64 0] n) 3)).alloc (.cells (madeCells #[.int .i64 0] n) 3)) (.int .i64 0) n 3
  simp only [World.size_alloc] at e2 e3
  exact ⟨(e1.alloc _).alloc _, e2.alloc _, e3, (((Below.refl _ _).alloc (Nat.le_refl _) _).alloc (by simp) _).alloc (by simp; omega) _, Nat.le_refl _⟩
end

/-- the first k cells are -1 -/
def minus (k : Nat) (j : Nat) : Int := if j < k then -1 else 0
theorem minus_step (k : Nat) (j : Nat) : (if j = k then -1 else minus k j) = minus (k + 1) j := by
  unfold minus
  by_cases e : j = k
  · rw [if_pos e, if_pos (by omega)]
  · rw [if_neg e]
    by_cases e2 : j < k
    · rw [if_pos e2, if_pos (by omega)]
    · rw [if_neg e2, if_neg (by omega)]

/-- the rows while places are told -/
def Four (w0 : World) (g n : Nat) (xs : List Nat) (k : Nat) (F H : Nat → Int) (W : World) : Prop := Rows3 w0 g n F (fun _ => -1) H W ∧ PosOk xs k F
/-- the rows while keys are told -/
def Five (w0 : World) (g n : Nat) (Len : Nat → Nat) (R : Nat → Nat → Nat) (xs : List Nat) (k i : Nat) (F G H : Nat → Int) (W : World) : Prop := Rows3 w0 g n F G H W ∧ KeyOk Len R xs k i G H

set_option maxRecDepth 100000 in
set_option maxHeartbeats 8000000 in
theorem law_walk (zz : ZzSays) (a1 a2 : Option Addr) (n1 n2 c1 c2 : Nat) (A1 A2 : Nat → Option Addr) (Len1 Len2 C1 C2 : Nat → Nat) (X1 X2 : Nat → Nat → Int) (r : Int) (w : World)
    (h1 : Mat w a1 n1 A1 Len1 C1 X1) (h2 : Mat w a2 n2 A2 Len2 C2 X2) (hr1 : -2147483648 ≤ r) (hr2 : r ≤ 2147483647) :
    Calls Try.prog 3 #[.slice a1 n1 c1, .slice a2 n2 c2, .int .i32 r] w fun e w' => e = .returned (.bool true) ∧ Below w.heap.size w w' := by
  have m1 := h1.max
  have m2 := h2.max
  go_enter Try.func3, Try.ntmps3
  go_wp2_with fail
  refine (bytes4 a1 a2 n1 n2 c1 c2 A1 A2 Len1 Len2 C1 C2 X1 X2 r w h1 h2).mono ?_
  rintro e w1 ⟨b, rfl, hsmall, hw⟩
  subst hw
  cases b with
  | false =>
    go_wp2_with fail
    go_ret
    exact ⟨rfl, Below.refl _ _⟩
  | true =>
    obtain ⟨s1, u1, s2', u2⟩ := hsmall rfl
    clear hsmall
    by_cases q1 : n1 ≤ 4096
    · by_cases q2 : n2 ≤ 4096
      · go_wp2_with fail
        go_loop [7, 8] (fun u i => ∃ k s : Nat, k ≤ n1 ∧ s ≤ 1048576 ∧ i = .int .i64 k ∧ u = .int .i64 s) (fun _ i => n1 - (intOf i).toNat)
        case atStart => exact ⟨0, 0, Nat.zero_le _, by omega, rfl, rfl⟩
        case round =>
          obtain ⟨k, s, hk, hs, rfl, rfl⟩ := hrel
          by_cases hlt : k < n1
          · obtain ⟨b, off, rfl, hc⟩ := h1.row hlt
            have hl := u1 k hlt
            by_cases q3 : s + (24 + 8 * Len1 k) ≤ 1048576
            · go_wp2_with fail
              go_round
              case rel => exact ⟨k + 1, s + (24 + 8 * Len1 k), by omega, q3, by go_num, by go_num⟩
              case measure => simp [intOf]; omega
            · go_wp2_with fail
              go_ret
              exact ⟨rfl, Below.refl _ _⟩
          · skip
            go_wp2_with fail
            go_loop [7, 9] (fun u i => ∃ k s : Nat, k ≤ n2 ∧ s ≤ 1048576 ∧ i = .int .i64 k ∧ u = .int .i64 s) (fun _ i => n2 - (intOf i).toNat)
            case atStart => exact ⟨0, s, Nat.zero_le _, by assumption, rfl, rfl⟩
            case round =>
              obtain ⟨k2, s2, hk, hs, rfl, rfl⟩ := hrel
              by_cases hlt : k2 < n2
              · obtain ⟨b, off, rfl, hc⟩ := h2.row hlt
                have hl := u2 k2 hlt
                by_cases q3 : s2 + (24 + 8 * Len2 k2) ≤ 1048576
                · go_wp2_with fail
                  go_round
                  case rel => exact ⟨k2 + 1, s2 + (24 + 8 * Len2 k2), by omega, q3, by go_num, by go_num⟩
                  case measure => simp [intOf]; omega
                · go_wp2_with fail
                  go_ret
                  exact ⟨rfl, Below.refl _ _⟩
              · go_wp2_with fail
                refine (domain5 a1 a2 n1 n2 c1 c2 A1 Len1 C1 X1 r w1 h1 s1 s2' u1 hr1 hr2).mono ?_
                rintro e w2 ⟨b, rfl, hdom, hw⟩
                subst hw
                cases b with
                | false =>
                  go_wp2_with fail
                  go_ret
                  exact ⟨rfl, Below.refl _ _⟩
                | true =>
                  obtain ⟨he, hr3, hr4, hdm⟩ := hdom rfl
                  subst he
                  obtain ⟨ρ, rfl⟩ := Int.eq_ofNat_of_zero_le hr3
                  have hρ : ρ < n2 := by omega
                  obtain ⟨b1, o1, rfl, _⟩ := h1.row hρ
                  obtain ⟨b2, o2, rfl, _⟩ := h2.row hρ
                  clear hr3 hr4
                  go_wp2_with fail
                  refine (copyLists6 b1 o1 n2 c1 A1 Len1 C1 X1 w2 s2' u1 h1).mono ?_
                  rintro e w3 ⟨rfl, hb3, A3, C3, hcop3⟩
                  have h1' := h1.below hb3
                  have h2' := h2.below hb3
                  go_wp2_with fail
                  refine (copyLists6 b2 o2 n2 c2 A2 Len2 C2 X2 w3 s2' u2 h2').mono ?_
                  rintro e w4 ⟨rfl, hb4, A4, C4, hcop4⟩
                  have hcop3' := hcop3.below hb4
                  have hX : ∀ v, v < n2 → ∀ j, j < Len1 v → X1 v j = (((X1 v j).toNat : Nat) : Int) ∧ (X1 v j).toNat < n2 := fun v hv j hj => by
                    have := hdm v j hj (.inl hv)
                    omega
                  have hreads : Reads w2.heap.size w3.heap.size n2 A3 A4 Len1 C3 Len2 C4 (fun a j => (X1 a j).toNat) w4 := by
                    refine ⟨fun v hv => ?_, fun v hv => ?_, fun v hv => ?_⟩
                    · have := hcop3'.1.cell hv
                      rwa [outer, if_pos hv] at this
                    · have := hcop4.1.cell hv
                      rwa [outer, if_pos hv] at this
                    · rcases (hcop3'.2 v hv).2 with q | ⟨b, off, _, e, q⟩
                      · exact ⟨0, 0, .inl q, fun j hj => by omega⟩
                      · exact ⟨b, off, .inr e, fun j hj => by rw [q j hj, ← (hX v hv j hj).1]⟩
                  have h14 := h1'.below hb4
                  have hb24 := below_step hb3 hb4
                  clear hcop3 hcop3' hcop4 h1' h2' hb3 hb4
                  go_wp2_with fail
                  refine (zz w2.heap.size w3.heap.size n2 ρ A3 A4 Len1 C3 Len2 C4 (fun a j => (X1 a j).toNat) w4 hρ q1 u1 (fun v hv j hj => (hX v hv j hj).2) hreads).mono ?_
                  rintro e w5 ⟨g, cap, xs, rfl, hgot, hb5⟩
                  have h15 := h14.below hb5
                  have hb25 := below_step hb24 hb5
                  have hbfs := hgot.1
                  have hpos : 0 < xs.length := hbfs.1
                  have c0 := row_cell hgot.2 hpos
                  rw [hbfs.2.1] at c0
                  have hlen := hbfs.len
                  have hmk := run_make_row' (P := Try.prog) 30 3 (.int .i64 0) 8 Try.underlying30 Try.info3b rfl .i64 .i64 n2 (by omega) (by omega)
                  have hne : (((xs.length : Nat) : Int) == 0) = false := by rw [beq_eq_false_iff_ne]; omega
                  have hmade := rows3_made w5 n2
                  obtain ⟨R, hRdef⟩ : ∃ R : Nat → Nat → Nat, R = fun a j => (X1 a j).toNat := ⟨_, rfl⟩
                  have hX' : ∀ v, v < n2 → ∀ j, j < Len1 v → X1 v j = ((R v j : Nat) : Int) ∧ R v j < n2 := by rw [hRdef]; exact hX
                  have hbfs' : Hid (Bfs n2 ρ Len1 R xs xs.length 0) := by rw [hRdef]; exact hbfs
                  have hrowg : Hid (w5.ownsRow w4.heap.size 29 1 (.slice (some ⟨g, 0, none⟩) xs.length cap) xs.length (vals xs)) := hgot.2
                  have hcl : Hid (∀ k, k < xs.length → w5.cell? ⟨g, k, none⟩ = some (.int .i32 (ix xs k : Int))) := fun k hk => row_cell hgot.2 hk
                  clear hreads h14 hb24 hb5 h1 h2 hX hRdef hbfs hgot
                  go_wp2_with fail
                  clear hmk c0 hne
                  go_loopw [17] (fun i wr => ∃ k : Nat, k ≤ n2 ∧ i = .int .i64 k ∧ Rows3 w5 w5.heap.size n2 (minus k) (minus k) (fun _ => 0) wr) (fun i _ => n2 - (intOf i).toNat)
                  case atStart => exact ⟨0, Nat.zero_le _, rfl, hmade.congr (fun j _ => by simp [minus]) (fun j _ => by simp [minus]) (fun _ _ => rfl)⟩
                  case round =>
                    obtain ⟨k, hk, rfl, hrows⟩ := hrel
                    clear hmade
                    by_cases hlt : k < n2
                    · have d1 := hrows.pos.cell hlt
                      have d2 := hrows.keyP.cell hlt
                      have d3 := hrows.pos.frozen k
                      have d4 := hrows.keyP.frozen k
                      have hfin : Rows3 w5 w5.heap.size n2 (minus (k + 1)) (minus (k + 1)) (fun _ => 0) ((wr.setCell ⟨w5.heap.size, k, none⟩ (.int .i64 (-1))).setCell ⟨w5.heap.size + 1, k, none⟩ (.int .i64 (-1))) :=
                        ((hrows.set1 k (-1)).set2 k (-1)).congr (fun j _ => minus_step k j) (fun j _ => minus_step k j) (fun _ _ => rfl)
                      clear hrows
                      go_wp2_with fail
                      go_roundw
                      case rel => exact ⟨k + 1, by omega, by go_num, hfin⟩
                      case measure => simp [intOf]; omega
                    · obtain rfl : k = n2 := by omega
                      have hfour : Four w5 w5.heap.size k xs 0 (fun _ => -1) (fun _ => 0) wr := ⟨hrows.congr (fun j hj => by simp [minus, hj]) (fun j hj => by simp [minus, hj]) (fun _ _ => rfl), pos_start xs⟩
                      clear hrows
                      go_wp2_with fail
                      go_loopw [18] (fun i wr => ∃ (p : Nat) (F : Nat → Int), p ≤ xs.length ∧ i = .int .i64 p ∧ Four w5 w5.heap.size k xs p F (fun _ => 0) wr) (fun i _ => xs.length - (intOf i).toNat)
                      case atStart => exact ⟨0, _, Nat.zero_le _, rfl, hfour⟩
                      case round =>
                        obtain ⟨p, F, hp, rfl, hf4⟩ := hrel
                        clear hfour
                        by_cases hplt : p < xs.length
                        · have hv : ix xs p < k := hbfs'.out.2.2.2.1 p hplt
                          have hfree := pos_free hf4.2 hbfs'.out.2.2.1 hplt
                          have hstep := pos_step hf4.2
                          have cg := (hf4.1.below.cell (World.block_lt_of_cell? _ _ (hcl.out p hplt))).trans (hcl.out p hplt)
                          obtain ⟨v, hve⟩ : ∃ v, ix xs p = v := ⟨_, rfl⟩
                          rw [hve] at hv hfree hstep cg
                          have d1 := hf4.1.pos.cell hv
                          rw [hfree] at d1
                          have d3 := hf4.1.pos.frozen v
                          have hfin : Four w5 w5.heap.size k xs (p + 1) (fun j => if j = v then (p : Int) else F j) (fun _ => 0) (wr.setCell ⟨w5.heap.size, v, none⟩ (.int .i64 (p : Int))) := ⟨hf4.1.set1 v p, hstep⟩
                          clear hf4 hve hfree hstep
                          go_wp2_with fail
                          go_roundw
                          case rel => exact ⟨p + 1, _, by omega, by go_num, hfin⟩
                          case measure => simp [intOf]; omega
                        · obtain rfl : p = xs.length := by omega
                          have hF : Hid (PosOk xs xs.length F) := hf4.2
                          have hfive : Five w5 w5.heap.size k Len1 R xs 0 0 F (fun _ => -1) (fun _ => 0) wr := ⟨hf4.1, key_start _⟩
                          clear hf4
                          go_wp2_with fail
                          go_loopw [20] (fun i wr => ∃ (p : Nat) (G H : Nat → Int), p ≤ xs.length ∧ i = .int .i64 p ∧ Five w5 w5.heap.size k Len1 R xs p 0 F G H wr) (fun i _ => xs.length - (intOf i).toNat)
                          case atStart => exact ⟨0, _, _, Nat.zero_le _, rfl, hfive⟩
                          case round =>
                            obtain ⟨p, G, H, hp, rfl, hf5⟩ := hrel
                            clear hfive
                            by_cases hplt : p < xs.length
                            · have hv : ix xs p < k := hbfs'.out.2.2.2.1 p hplt
                              have hclosed : Hid (∀ q, q < Len1 (ix xs p) → R (ix xs p) q ∈ xs) := fun q hq => hbfs'.out.2.2.2.2.1 p q (.inl hplt) hplt hq
                              have cg := (hf5.1.below.cell (World.block_lt_of_cell? _ _ (hcl.out p hplt))).trans (hcl.out p hplt)
                              obtain ⟨v, hve⟩ : ∃ v, ix xs p = v := ⟨_, rfl⟩
                              have hve' : Hid (ix xs p = v) := hve
                              rw [hve] at hv hclosed cg
                              obtain ⟨b', o', e', cr⟩ := (h15.below hf5.1.below).row hv
                              cases e'
                              obtain ⟨ax, hax⟩ : ∃ ax, A1 v = ax := ⟨_, rfl⟩
                              rw [hax] at cr
                              have hax' : Hid (A1 v = ax) := hax
                              have hLv := u1 v hv
                              clear hax hve
                              go_wp2_with fail
                              clear cg cr
                              go_loopw [22] (fun i wr => ∃ (q : Nat) (G H : Nat → Int), q ≤ Len1 v ∧ i = .int .i64 q ∧ Five w5 w5.heap.size k Len1 R xs p q F G H wr) (fun i _ => Len1 v - (intOf i).toNat)
                              case atStart => exact ⟨0, _, _, Nat.zero_le _, rfl, hf5⟩
                              case round =>
                                obtain ⟨q, G, H, hq, rfl, hf6⟩ := hrel
                                clear hf5
                                by_cases hqlt : q < Len1 v
                                · obtain ⟨bI, oI, hA, ci⟩ := (h15.below hf6.1.below).item hv hqlt
                                  have hAx : ax = some ⟨bI, oI, none⟩ := hax'.out.symm.trans hA
                                  subst hAx
                                  have hmem := hclosed.out q hqlt
                                  obtain ⟨hXe, hyn⟩ := hX' v hv q hqlt
                                  rw [hXe] at ci
                                  have hfx : Hid (R v q = R (ix xs p) q) := by show R v q = _; rw [hve'.out]
                                  obtain ⟨y, hye⟩ : ∃ y, R v q = y := ⟨_, rfl⟩
                                  rw [hye] at ci hmem hyn
                                  have hye' : Hid (R (ix xs p) q = y) := hfx.out.symm.trans hye
                                  obtain ⟨z, hz, hFz⟩ := pos_found hF.out hmem
                                  have d1 := hf6.1.pos.cell hyn
                                  rw [hFz] at d1
                                  have hz1 : (((z : Nat) : Int) == -1) = false := by rw [beq_eq_false_iff_ne]; omega
                                  have hqL : Hid (q < Len1 (ix xs p)) := by show q < _; rw [hve'.out]; exact hqlt
                                  clear hA hXe hfx hye hFz hmem
                                  by_cases hG : G y = -1
                                  · have d2 := hf6.1.keyP.cell hyn
                                    rw [hG] at d2
                                    have d3 := hf6.1.keyP.frozen y
                                    have d4 := hf6.1.keyI.cell hyn
                                    have d5 := hf6.1.keyI.frozen y
                                    have hk6 := key_new hf6.2 hplt hqL.out (by rw [hye'.out]; exact hG)
                                    rw [hye'.out] at hk6
                                    have hfin : Five w5 w5.heap.size k Len1 R xs p (q + 1) F (fun j => if j = y then (p : Int) else G j) (fun j => if j = y then (q : Int) else H j) ((wr.setCell ⟨w5.heap.size + 1, y, none⟩ (.int .i64 (p : Int))).setCell ⟨w5.heap.size + 2, y, none⟩ (.int .i64 (q : Int))) := ⟨(hf6.1.set2 y p).set3 y q, hk6⟩
                                    clear hf6 hk6 hG
                                    go_wp2_with fail
                                    go_roundw
                                    case rel => exact ⟨q + 1, _, _, by omega, by go_num, hfin⟩
                                    case measure => simp [intOf]; omega
                                  · have hk6 := key_had hf6.2 (by rw [hye'.out]; exact hG)
                                    obtain ⟨za, hza⟩ : ∃ za : Nat, G y = za := by
                                      rcases hf6.2 y with ⟨e, _⟩ | ⟨a, b, e, _⟩
                                      · exact absurd e hG
                                      · exact ⟨a, e⟩
                                    have d2 := hf6.1.keyP.cell hyn
                                    rw [hza] at d2
                                    have hz2 : (((za : Nat) : Int) == -1) = false := by rw [beq_eq_false_iff_ne]; omega
                                    have hfin : Five w5 w5.heap.size k Len1 R xs p (q + 1) F G H wr := ⟨hf6.1, hk6⟩
                                    clear hf6 hk6 hG hza
                                    go_wp2_with fail
                                    go_roundw
                                    case rel => exact ⟨q + 1, _, _, by omega, by go_num, hfin⟩
                                    case measure => simp [intOf]; omega
                                · obtain rfl : q = Len1 v := by omega
                                  have hfin : Five w5 w5.heap.size k Len1 R xs (p + 1) 0 F G H wr := ⟨hf6.1, key_next (by rw [hve'.out]; exact hf6.2)⟩
                                  clear hf6
                                  go_wp2_with fail
                                  go_roundw
                                  case rel => exact ⟨p + 1, _, _, by omega, by go_num, hfin⟩
                                  case measure => simp [intOf]; omega
                            · obtain rfl : p = xs.length := by omega
                              obtain ⟨a, b, hrise⟩ := keys_rise hbfs'.out hf5.2
                              have hrows := hf5.1
                              clear hf5
                              go_wp2_with fail
                              go_loopw [24] (fun i wr => ∃ p : Nat, 1 ≤ p ∧ p ≤ xs.length ∧ i = .int .i64 p ∧ Rows3 w5 w5.heap.size k F G H wr) (fun i _ => xs.length - (intOf i).toNat)
                              case atStart => exact ⟨1, Nat.le_refl _, by omega, rfl, hrows⟩
                              case round =>
                                obtain ⟨p, hp1, hp, rfl, hr7⟩ := hrel
                                clear hrows
                                by_cases hplt : p < xs.length
                                · obtain ⟨p', rfl⟩ : ∃ p', p = p' + 1 := ⟨p - 1, by omega⟩
                                  have hv : ix xs (p' + 1) < k := hbfs'.out.2.2.2.1 (p' + 1) hplt
                                  have hu : ix xs p' < k := hbfs'.out.2.2.2.1 p' (by omega)
                                  have cg := (hr7.below.cell (World.block_lt_of_cell? _ _ (hcl.out (p' + 1) hplt))).trans (hcl.out (p' + 1) hplt)
                                  have cu := (hr7.below.cell (World.block_lt_of_cell? _ _ (hcl.out p' (by omega)))).trans (hcl.out p' (by omega))
                                  obtain ⟨e1, e2, e3⟩ := hrise.1 (p' + 1) hp1 hplt
                                  have d1 := hr7.keyP.cell hv
                                  have d2 := hr7.keyI.cell hv
                                  rw [e1] at d1
                                  rw [e2] at d2
                                  obtain ⟨v, hve⟩ : ∃ v, ix xs (p' + 1) = v := ⟨_, rfl⟩
                                  obtain ⟨u, hue⟩ : ∃ u, ix xs p' = u := ⟨_, rfl⟩
                                  obtain ⟨za, hza⟩ : ∃ za, a (p' + 1) = za := ⟨_, rfl⟩
                                  obtain ⟨zb, hzb⟩ : ∃ zb, b (p' + 1) = zb := ⟨_, rfl⟩
                                  rw [hve] at hv cg d1 d2
                                  rw [hue] at hu cu
                                  rw [hza] at d1 e3
                                  rw [hzb] at d2
                                  have hz1 : (((za : Nat) : Int) == -1) = false := by rw [beq_eq_false_iff_ne]; omega
                                  have cg' : wr.cell? ⟨g, p' + 1, none⟩ = some (.int .i32 (v : Int)) := cg
                                  by_cases hp2 : 1 ≤ p'
                                  · obtain ⟨f1, f2, f3⟩ := hrise.1 p' hp2 (by omega)
                                    have hlex := hrise.2 (p' + 1) (by omega) hplt
                                    rw [Nat.add_sub_cancel, hza, hzb] at hlex
                                    rw [hue] at f1 f2
                                    have d3 := hr7.keyP.cell hu
                                    have d4 := hr7.keyI.cell hu
                                    rw [f1] at d3
                                    rw [f2] at d4
                                    obtain ⟨ya, hya⟩ : ∃ ya, a p' = ya := ⟨_, rfl⟩
                                    obtain ⟨yb, hyb⟩ : ∃ yb, b p' = yb := ⟨_, rfl⟩
                                    rw [hya] at d3 hlex
                                    rw [hyb] at d4 hlex
                                    have hle : ya ≤ za := by unfold Lex at hlex; omega
                                    clear e1 e2 hve hue hza hzb f1 f2 f3 hya hyb cg
                                    by_cases heq : ya = za
                                    · subst heq
                                      have hlt2 : yb < zb := by unfold Lex at hlex; omega
                                      have hlt3 : (yb : Int) < (zb : Int) := by omega
                                      go_wp2_with fail
                                      go_quiet (fail)
                                      go_wp2_with fail
                                      go_quiet (fail)
                                      go_wp2_with fail
                                      go_roundw
                                      case rel => exact ⟨p' + 1 + 1, by omega, by omega, by go_num, hr7.drewN _⟩
                                      case measure => simp [intOf]; omega
                                    · have hne2 : (((ya : Nat) : Int) == ((za : Nat) : Int)) = false := by rw [beq_eq_false_iff_ne]; omega
                                      go_wp2_with fail
                                      go_quiet (fail)
                                      go_wp2_with fail
                                      go_quiet (fail)
                                      go_wp2_with fail
                                      go_roundw
                                      case rel => exact ⟨p' + 1 + 1, by omega, by omega, by go_num, hr7.drewN _⟩
                                      case measure => simp [intOf]; omega
                                  · obtain rfl : p' = 0 := by omega
                                    go_wp2_with fail
                                    go_roundw
                                    case rel => exact ⟨2, by omega, by omega, rfl, hr7⟩
                                    case measure => simp [intOf]; omega
                                · go_wp2_with fail
                                  go_ret
                                  exact ⟨rfl, below_step hb25 hr7.below⟩
      · go_wp2_with fail
        go_ret
        exact ⟨rfl, Below.refl _ _⟩
    · go_wp2_with fail
      go_ret
      exact ⟨rfl, Below.refl _ _⟩
end Go.Proofs.Qxb6614821a
