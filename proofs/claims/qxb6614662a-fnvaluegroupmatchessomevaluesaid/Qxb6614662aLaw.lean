import Derived.Test.Qxb6614662aMatches
import Derived.Laws.CopyOwn
import Derived.Deep.OwnRows
namespace Go.Proofs.Qxb6614662a
open Go.RowKit

theorem Try.info9 : (Try.prog.info? 9).map (fun i => (i.zero, i.size, i.bytes)) = some (some (.string ByteArray.empty), 1, 16) := by kernel_rfl

/-- WHAT A WALK IS TOLD OF A []string THAT CAME IN. -/
structure NamesIn (w : World) (ao : Option Addr) (n c : Nat) (X : Nat → ByteArray) : Prop where
  le : n ≤ c
  max : c ≤ 9223372036854775807
  row : n = 0 ∨ ∃ b off, ao = some ⟨b, off, none⟩ ∧ StrRow w b off n X
  size : ∀ i, i < n → (X i).size ≤ 9223372036854775807

theorem Short.zero (X : Nat → ByteArray) : Short 0 X := fun _ h => absurd h (Nat.not_lt_zero _)
theorem Short.succ {j : Nat} {X : Nat → ByteArray} (h : Short j X) (hs : (X j).size ≤ 1048576) : Short (j + 1) X := fun i hi => by
  by_cases e : i = j
  · subst e; exact hs
  · exact h i (by omega)

def Fine (n : Nat) (X : Nat → ByteArray) (nm : ByteArray) : Prop := n ≤ 1048576 ∧ Short n X ∧ nm.size ≤ 1048576

set_option maxHeartbeats 1000000 in
theorem zzBytes13 (ao : Option Addr) (n c : Nat) (X : Nat → ByteArray) (nm : ByteArray) (g1 g2 : Bool) (l k : Int) (w : World) (h : NamesIn w ao n c X) (hnm : nm.size ≤ 9223372036854775807) :
    Calls Try.prog 13 #[.bool g1, .int .u8 l, .slice ao n c, .string nm, .int .u8 k, .bool g2] w fun e w' => w' = w ∧ (e = .returned (.bool false) ∨ (e = .returned (.bool true) ∧ Fine n X nm)) := by
  have hle := h.le
  have hmx := h.max
  by_cases hn : n ≤ 1048576
  · go_enter Try.func13, Try.ntmps13
    go_wp2
    go_loop [13, 14] (fun t i => ∃ (j : Nat) (z : Int), j ≤ n ∧ i = .int .i64 j ∧ t = .int .i64 z ∧ 0 ≤ z ∧ z ≤ 1048576 ∧ Short j X) (fun _ i => n - (intOf i).toNat)
    case atStart => exact ⟨0, n, Nat.zero_le _, rfl, rfl, by omega, by omega, Short.zero X⟩
    case round =>
      obtain ⟨j, z, hj, rfl, rfl, hz0, hz1, hq⟩ := hrel
      by_cases hlt : j < n
      · rcases h.row with h0 | ⟨b, off, hao, hr⟩
        · omega
        · subst hao
          have e0 := hr j hlt
          have hs := h.size j hlt
          clear hr h
          go_wp2
          · go_ret
            exact ⟨rfl, .inl rfl⟩
          · go_ret
            exact ⟨rfl, .inl rfl⟩
          · have hs2 : ((X j).size : Int) ≤ 1048576 := by assumption
            go_round
            case rel => exact ⟨j + 1, _, by omega, by go_num, rfl, by omega, by assumption, hq.succ (by omega)⟩
            case measure => simp [intOf]; omega
      · obtain rfl : j = n := by omega
        clear h
        go_wp2
        · go_ret
          exact ⟨rfl, .inl rfl⟩
        · go_ret
          exact ⟨rfl, .inl rfl⟩
        · have hs2 : (nm.size : Int) ≤ 1048576 := by assumption
          go_ret
          exact ⟨rfl, .inr ⟨rfl, hn, hq, by omega⟩⟩
  · clear h
    go_enter Try.func13, Try.ntmps13
    go_wp2
    go_ret
    exact ⟨rfl, .inl rfl⟩

set_option maxHeartbeats 1000000 in
theorem textsBytes_any (ao : Option Addr) (n c : Nat) (X : Nat → ByteArray) (st : Nat) (w : World) (h : NamesIn w ao n c X) (hs : Short n X) (hst : st ≤ 1048576) :
    Calls Try.prog 14 #[.slice ao n c, .int .i64 st] w fun e w' => w' = w ∧ ∃ r : Int, e = .returned (.int .i64 r) := by
  have hle := h.le
  have hmx := h.max
  go_enter Try.func14, Try.ntmps14
  go_wp2
  go_loop [5, 6] (fun t i => ∃ (j : Nat) (z : Int), j ≤ n ∧ i = .int .i64 j ∧ t = .int .i64 z ∧ 0 ≤ z ∧ z ≤ 1048576) (fun _ i => n - (intOf i).toNat)
  case atStart => exact ⟨0, st, Nat.zero_le _, rfl, rfl, by omega, by omega⟩
  case round =>
    obtain ⟨j, z, hj, rfl, rfl, hz0, hz1⟩ := hrel
    by_cases hlt : j < n
    · rcases h.row with h0 | ⟨b, off, hao, hr⟩
      · omega
      · subst hao
        have e0 := hr j hlt
        have hsj := hs j hlt
        clear hr h hs
        go_wp2
        · go_ret
          exact ⟨rfl, _, rfl⟩
        · go_round
          case rel => exact ⟨j + 1, _, by omega, by go_num, rfl, by omega, by assumption⟩
          case measure => simp [intOf]; omega
    · clear h
      go_wp2
      go_ret
      exact ⟨rfl, _, rfl⟩

/-- the first j texts rise -/
theorem rising_succ {k : Int} {X : Nat → ByteArray} {j : Nat} (h : Rising j (fun i => keyOf k (X i))) (hj : cmpL (keyOf k (X (j - 1))) (keyOf k (X j)) < 0) : Rising (j + 1) (fun i => keyOf k (X i)) := by
  intro i hi
  by_cases e : i + 1 = j
  · subst e
    exact hj
  · exact h i (by omega)

set_option maxHeartbeats 1000000 in
theorem strictlyRising_any (k : Int) (ao : Option Addr) (n c : Nat) (X : Nat → ByteArray) (w : World) (h : NamesIn w ao n c X) (hs : Short n X) (hn : n ≤ 1048576) (hpos : 0 < n) :
    Calls Try.prog 15 #[.int .u8 k, .slice ao n c] w fun e w' => (∃ d, w' = w.drewN d) ∧ (e = .returned (.bool false) ∨ (e = .returned (.bool true) ∧ Rising n (fun i => keyOf k (X i)))) := by
  have hle := h.le
  have hmx := h.max
  rcases h.row with h0 | ⟨b, off, hao, hr⟩
  · omega
  · subst hao
    clear h
    have HS : Hid (Short n X) := hs
    have HX : Hid (StrRow w b off n X) := hr
    clear hs hr
    go_enter Try.func15, Try.ntmps15
    go_wp2
    go_loopw [5] (fun i wr => ∃ j : Nat, 1 ≤ j ∧ j ≤ n ∧ i = .int .i64 j ∧ Hid (∃ d, wr = w.drewN d) ∧ Hid (Rising j (fun i => keyOf k (X i)))) (fun i _ => n - (intOf i).toNat)
    case atStart => exact ⟨1, Nat.le_refl _, hpos, rfl, ⟨0, rfl⟩, fun i hi => by omega⟩
    case round =>
      obtain ⟨j, hj1, hj, rfl, hd, hri⟩ := hrel
      by_cases hlt : j < n
      · have HXr : Hid (StrRow wr b off n X) := by
          obtain ⟨d, rfl⟩ := hd.out
          exact HX.out
        have e0 := HXr.out j hlt
        have e1 : wr.cell? ⟨b, off + (j - 1), none⟩ = some (.string (X (j - 1))) := HXr.out (j - 1) (by omega)
        have s0 := HS.out j hlt
        have s1 := HS.out (j - 1) (by omega)
        have i0 : (j : Int) < (n : Int) := by omega
        have i1 : (0 : Int) ≤ (j : Int) - 1 := by omega
        have i2 : (j : Int) - 1 < (n : Int) := by omega
        go_wp2
        go_quiet ((go_at_call 24; exact Calls.quiet_of_same (kindCompare_any k (X (j - 1)) (X j) _ s1 s0)))
        have hd2 : Hid (∃ d, wr.drewN nq = w.drewN d) := drew_more hd.out nq
        by_cases hc : cmpL (keyOf k (X (j - 1))) (keyOf k (X j)) < 0
        · have hri2 : Hid (Rising (j + 1) (fun i => keyOf k (X i))) := rising_succ hri.out hc
          clear hri
          go_wp2_with fail
          go_roundw
          case rel => exact ⟨j + 1, by omega, by omega, by go_num, hd2, hri2⟩
          case measure => simp [intOf]; omega
        · go_wp2_with fail
          go_ret
          exact ⟨hd2.out, .inl rfl⟩
      · obtain rfl : j = n := by omega
        go_wp2_with fail
        go_ret
        exact ⟨hd.out, .inr ⟨rfl, hri.out⟩⟩

set_option maxHeartbeats 1000000 in
theorem oneValue_any (gn : Bool) (gk : Int) (t x : ByteArray) (wk : Int) (wn : Bool) (w : World) (ht : t.size ≤ 1048576) (hx : x.size ≤ 1048576) :
    Calls Try.prog 20 #[.bool gn, .int .u8 gk, .string t, .string x, .int .u8 wk, .bool wn] w fun e w' => e = .returned (.bool (oneMatch gn gk (keyOf gk t) (keyOf gk x) wk wn)) ∧ w' = w := by
  by_cases he : gk = wk
  · have hb : (gk != wk) = false := by rw [bne_eq_false_iff_eq]; exact he
    have hf : Hid (oneMatch gn gk (keyOf gk t) (keyOf gk x) wk wn = (decide (cmpL (keyOf gk t) (keyOf gk x) = 0) == (gn == wn))) := if_pos he
    clear he
    go_enter Try.func20, Try.ntmps20
    go_wp2_with fail
    refine (kindCompare_any gk t x _ ht hx).mono ?_
    rintro e w1 ⟨rfl, hw1⟩
    subst hw1
    go_wp2_with fail
    go_ret
    exact ⟨ret_bool (by rw [hf.out]; rfl), rfl⟩
  · have hb : (gk != wk) = true := by rw [bne_iff_ne]; exact he
    have hf : Hid (oneMatch gn gk (keyOf gk t) (keyOf gk x) wk wn = (gn != wn)) := if_neg he
    clear he
    go_enter Try.func20, Try.ntmps20
    go_wp2_with fail
    go_ret
    exact ⟨ret_bool (by rw [hf.out]; cases gn <;> cases wn <;> rfl), rfl⟩

set_option maxHeartbeats 1000000 in
theorem groupMatches_any (gn : Bool) (gk : Int) (b off n c : Nat) (X : Nat → ByteArray) (x : ByteArray) (wk : Int) (wn : Bool) (w : World) (hn : n ≤ 65536) (hx : x.size ≤ 65536) (hs : Short n X) (h : StrRow w b off n X) :
    Calls Try.prog 17 #[.bool gn, .int .u8 gk, .slice (some ⟨b, off, none⟩) n c, .string x, .int .u8 wk, .bool wn] w fun e w' => e = .returned (.bool (groupMatch gn gk n (fun i => keyOf gk (X i)) (keyOf gk x) wk wn)) ∧ w' = w := by
  have HS : Hid (Short n X) := hs
  have HX : Hid (StrRow w b off n X) := h
  clear hs h
  go_enter Try.func17, Try.ntmps17
  go_wp2_with fail
  go_loop [13] (fun i => ∃ j : Nat, j ≤ n ∧ i = .int .i64 j ∧ Hid (∀ q, q < j → oneMatch gn gk (keyOf gk (X q)) (keyOf gk x) wk wn = false)) (fun i => n - (intOf i).toNat)
  case atStart => exact ⟨0, Nat.zero_le _, rfl, fun q hq => absurd hq (Nat.not_lt_zero _)⟩
  case round =>
    obtain ⟨j, hj, rfl, hq⟩ := hrel
    by_cases hlt : j < n
    · have e0 := HX.out j hlt
      have s0 := HS.out j hlt
      go_wp2_with fail
      refine (oneValue_any gn gk (X j) x wk wn _ s0 (by omega)).mono ?_
      rintro e w1 ⟨rfl, hw1⟩
      subst hw1
      cases ho : oneMatch gn gk (keyOf gk (X j)) (keyOf gk x) wk wn with
      | true =>
        have hf : Hid (groupMatch gn gk n (fun i => keyOf gk (X i)) (keyOf gk x) wk wn = true) := List.any_eq_true.2 ⟨j, List.mem_range.2 hlt, ho⟩
        go_wp2_with fail
        go_ret
        exact ⟨ret_bool hf.out.symm, rfl⟩
      | false =>
        have hq2 : Hid (∀ q, q < j + 1 → oneMatch gn gk (keyOf gk (X q)) (keyOf gk x) wk wn = false) := fun q h => by
          by_cases e : q = j
          · subst e; exact ho
          · exact hq.out q (by omega)
        clear hq
        go_wp2_with fail
        go_round
        case rel => exact ⟨j + 1, by omega, by go_num, hq2⟩
        case measure => simp [intOf]; omega
    · have hf : Hid (groupMatch gn gk n (fun i => keyOf gk (X i)) (keyOf gk x) wk wn = false) := List.any_eq_false.2 (fun i hi => by
        have := hq.out i (by have := List.mem_range.1 hi; omega)
        simpa using this)
      clear hq
      go_wp2_with fail
      go_ret
      exact ⟨ret_bool hf.out.symm, rfl⟩
end Go.Proofs.Qxb6614662a
