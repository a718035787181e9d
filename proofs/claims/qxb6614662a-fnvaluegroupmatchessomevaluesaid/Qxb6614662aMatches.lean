import Derived.Test.Qxb6614662aGroup
namespace Go.Proofs.Qxb6614662a
open Go.RowKit

theorem eqK_key (k : Int) (a b : ByteArray) : eqK k a b = decide (keyOf k a = keyOf k b) := by
  unfold eqK
  rw [Bool.eq_iff_iff, decide_eq_true_iff, decide_eq_true_iff, cmpL_eq]

set_option maxHeartbeats 2000000 in
theorem holdsMismatch_any (w : World) (bg bw : Nat) (gn : Bool) (gk : Int) (b off n c : Nat) (X : Nat → ByteArray) (x : ByteArray) (wk : Int) (wn : Bool) (h : Read w bg bw gn gk b off n c X x wk wn) (hk : wk = 0 ∨ wk = 1) (hn : 0 < n) :
    Calls Try.prog 31 #[.pointer (some ⟨bg, 0, none⟩), .pointer (some ⟨bw, 0, none⟩)] w fun e w' => e = .returned (.bool (decide (1 < n) || !(decide (keyOf wk (X 0) = keyOf wk x)))) ∧ ∃ d, w' = w.drewN d := by
  have g2 := h.g2
  have w0 := h.w0
  have w9 := h.w9
  have hlen := h.len
  have hsize := h.size
  have e0 : w.cell? ⟨b, off, none⟩ = some (.string (X 0)) := by simpa using h.row 0 hn
  have hsz := h.short 0 hn
  have k2 : (wk != 2) = true := by rw [bne_iff_ne]; omega
  clear h
  rw [← eqK_key]
  by_cases h1 : 1 < n
  · have d1 : decide ((1 : Int) < (n : Int)) = true := by simp; omega
    have d1' : decide (1 < n) = true := by simp [h1]
    go_enter Try.func31, Try.ntmps31
    go_wp2_with fail
    go_quiet (fail)
    go_wp2_with fail
    go_ret
    exact ⟨ret_bool (a := true) (by rw [d1']; rfl), nq, rfl⟩
  · obtain rfl : n = 1 := by omega
    go_enter Try.func31, Try.ntmps31
    go_wp2_with fail
    go_quiet ((go_at_call 42; exact Calls.quiet_of (equal_any wk (X 0) x _ hsz)))
    go_wp2_with fail
    go_ret
    exact ⟨ret_bool (by simp), nq, rfl⟩

set_option maxHeartbeats 2000000 in
theorem matches_any (w : World) (bg bw : Nat) (gn : Bool) (gk : Int) (b off n c : Nat) (X : Nat → ByteArray) (x : ByteArray) (wk : Int) (wn : Bool) (h : Read w bg bw gn gk b off n c X x wk wn) (hk : gk = 0 ∨ gk = 1) (hn : 0 < n) (hr : Rising n (fun i => keyOf gk (X i))) :
    Calls Try.prog 25 #[.pointer (some ⟨bg, 0, none⟩), .pointer (some ⟨bw, 0, none⟩)] w fun e w' => e = .returned (.bool (matchesB gn gk n (fun i => keyOf gk (X i)) (keyOf gk x) wk wn)) ∧ ∃ d, w' = w.drewN d := by
  have g0 := h.g0
  have g1 := h.g1
  have w9 := h.w9
  have w10 := h.w10
  have HR : Hid (Read w bg bw gn gk b off n c X x wk wn) := h
  have HS : Hid (Rising n (fun i => keyOf gk (X i))) := hr
  clear h hr
  by_cases he : gk = wk
  · subst he
    by_cases hg : gn = wn
    · subst hg
      have hfin : Hid (matchesB gn gk n (fun i => keyOf gk (X i)) (keyOf gk x) gk gn = among n (fun i => keyOf gk (X i)) (keyOf gk x)) := by
        show matchesB gn gk n (fun i => keyOf gk (X i)) (keyOf gk x) gk gn = _
        unfold matchesB
        rw [if_pos rfl, if_pos rfl]
      go_enter Try.func25, Try.ntmps25
      go_wp2_with fail
      go_quiet (fail)
      go_wp2_with fail
      go_quiet (fail)
      go_wp2_with fail
      refine (holdsMatch_any _ bg bw gn gk b off n c X x gk gn (HR.out.drewN _) hk HS.out).mono ?_
      rintro e w1 ⟨rfl, hw1⟩
      have hd : Hid (∃ d, w1 = w.drewN d) := drew_trans ⟨_, rfl⟩ hw1
      clear hw1
      go_wp2_with fail
      go_ret
      exact ⟨ret_bool hfin.out.symm, hd.out⟩
    · have hgb : (gn == wn) = false := by simpa using hg
      have hfin : Hid (matchesB gn gk n (fun i => keyOf gk (X i)) (keyOf gk x) gk wn = (decide (1 < n) || !(decide (keyOf gk (X 0) = keyOf gk x)))) := by
        show matchesB gn gk n (fun i => keyOf gk (X i)) (keyOf gk x) gk wn = _
        unfold matchesB
        rw [if_pos rfl, if_neg hg]
      clear hg
      go_enter Try.func25, Try.ntmps25
      go_wp2_with fail
      go_quiet (fail)
      go_wp2_with fail
      go_quiet (fail)
      go_wp2_with fail
      refine (holdsMismatch_any _ bg bw gn gk b off n c X x gk wn (HR.out.drewN _) hk hn).mono ?_
      rintro e w1 ⟨rfl, hw1⟩
      have hd : Hid (∃ d, w1 = w.drewN d) := drew_trans ⟨_, rfl⟩ hw1
      clear hw1
      go_wp2_with fail
      go_ret
      exact ⟨ret_bool hfin.out.symm, hd.out⟩
  · have hkb : (gk != wk) = true := by rw [bne_iff_ne]; exact he
    have hfin : Hid (matchesB gn gk n (fun i => keyOf gk (X i)) (keyOf gk x) wk wn = (gn != wn)) := by
      show matchesB gn gk n (fun i => keyOf gk (X i)) (keyOf gk x) wk wn = _
      unfold matchesB
      rw [if_neg he]
    clear he
    go_enter Try.func25, Try.ntmps25
    go_wp2_with fail
    go_quiet (fail)
    go_wp2_with fail
    go_quiet (fail)
    go_wp2_with fail
    go_ret
    exact ⟨ret_bool (by rw [hfin.out]; cases gn <;> cases wn <;> rfl), drew_more ⟨_, rfl⟩ _⟩

def gCells (gn : Bool) (gk : Int) (t : Value) : Array Value := #[.bool gn, .int .u8 gk, t, .slice none 0 0, .bool false, .string ⟨#[]⟩, .string ⟨#[]⟩, .bool false, .bool false, .string ⟨#[]⟩, .string ⟨#[]⟩, .bool false]
def wCells (x : ByteArray) (wk : Int) (wn : Bool) : Array Value := #[.string x, .bool false, .string ⟨#[]⟩, .string ⟨#[]⟩, .bool false, .bool false, .string ⟨#[]⟩, .string ⟨#[]⟩, .bool false, .int .u8 wk, .bool wn]

theorem read_new {gn : Bool} {gk : Int} {b off n c : Nat} {X : Nat → ByteArray} {x : ByteArray} {wk : Int} {wn : Bool} {w : World} (hlen : n ≤ 65536) (hsize : x.size ≤ 65536) (hs : Short n X) (h : StrRow w b off n X) :
    Read ((w.alloc (.cells (gCells gn gk (.slice (some ⟨b, off, none⟩) n c)) 44)).alloc (.cells (wCells x wk wn) 49)) w.heap.size (w.heap.size + 1) gn gk b off n c X x wk wn := by
  have hg := heap_alloc2_old w (.cells (gCells gn gk (.slice (some ⟨b, off, none⟩) n c)) 44) (.cells (wCells x wk wn) 49)
  have hw := heap_alloc2_new w (.cells (gCells gn gk (.slice (some ⟨b, off, none⟩) n c)) 44) (.cells (wCells x wk wn) 49)
  have hb : Below w.heap.size w ((w.alloc (.cells (gCells gn gk (.slice (some ⟨b, off, none⟩) n c)) 44)).alloc (.cells (wCells x wk wn) 49)) := ((Below.refl _ _).alloc (Nat.le_refl _) _).alloc (by simp) _
  refine ⟨?_, ?_, ?_, ?_, ?_, ?_, fun i hi => (hb.cell (World.block_lt_of_cell? _ _ (h i hi))).trans (h i hi), hs, hlen, hsize⟩
  · rw [cell_of_row _ _ 0 _ _ _ hg]; rfl
  · rw [cell_of_row _ _ 1 _ _ _ hg]; rfl
  · rw [cell_of_row _ _ 2 _ _ _ hg]; rfl
  · rw [cell_of_row _ _ 0 _ _ _ hw]; rfl
  · rw [cell_of_row _ _ 9 _ _ _ hw]; rfl
  · rw [cell_of_row _ _ 10 _ _ _ hw]; rfl

set_option maxHeartbeats 2000000 in
theorem matchesText_any (gn : Bool) (gk : Int) (b off n c : Nat) (X : Nat → ByteArray) (x : ByteArray) (wk : Int) (wn : Bool) (w : World) (hk : gk = 0 ∨ gk = 1) (hn : 0 < n) (hlen : n ≤ 65536) (hsize : x.size ≤ 65536) (hs : Short n X) (h : StrRow w b off n X) (hr : Rising n (fun i => keyOf gk (X i))) :
    Calls Try.prog 16 #[.bool gn, .int .u8 gk, .slice (some ⟨b, off, none⟩) n c, .string x, .int .u8 wk, .bool wn] w fun e w' => e = .returned (.bool (matchesB gn gk n (fun i => keyOf gk (X i)) (keyOf gk x) wk wn)) ∧ Below w.heap.size w w' := by
  go_enter Try.func16, Try.ntmps16
  go_wp2_with fail
  have hb : Below w.heap.size w ((w.alloc (.cells (gCells gn gk (.slice (some ⟨b, off, none⟩) n c)) 44)).alloc (.cells (wCells x wk wn) 49)) := ((Below.refl _ _).alloc (Nat.le_refl _) _).alloc (by simp) _
  refine (matches_any _ w.heap.size (w.heap.size + 1) gn gk b off n c X x wk wn (read_new hlen hsize hs h) hk hn hr).mono ?_
  rintro e w1 ⟨rfl, hw1⟩
  have hb1 : Hid (Below w.heap.size w w1) := by
    obtain ⟨d, rfl⟩ := hw1
    exact hb.trans ⟨rfl, rfl, rfl, Nat.le_refl _, fun _ _ => rfl⟩
  clear hw1 hb hs h hr
  go_wp2_with fail
  go_ret
  exact ⟨rfl, hb1.out⟩
end Go.Proofs.Qxb6614662a
