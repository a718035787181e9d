import Derived.Test.Qxb6614662aSearch
namespace Go.Proofs.Qxb6614662a
open Go.RowKit

theorem keyOf_inj {k : Int} (hk : ¬ k = 0) {a b : ByteArray} : keyOf k a = keyOf k b ↔ a = b := by
  rw [keyOf_raw hk, keyOf_raw hk]
  constructor
  · intro h
    have := toNat_map_inj h
    cases a
    cases b
    simp_all
  · rintro rfl
    rfl

set_option maxHeartbeats 1000000 in
theorem index_any (b off n c : Nat) (X : Nat → ByteArray) (x : ByteArray) (w : World) (hn : n ≤ 1048576) (h : StrRow w b off n X) :
    Calls Try.prog 49 #[.slice (some ⟨b, off, none⟩) n c, .string x] w fun e w' => (∃ r : Int, e = .returned (.int .i64 r) ∧ (0 ≤ r ↔ ∃ i, i < n ∧ X i = x)) ∧ w' = w := by
  go_enter Try.func49, Try.ntmps49
  go_wp2
  go_loop [8] (fun i => ∃ j : Nat, j ≤ n ∧ i = .int .i64 j ∧ ∀ q, q < j → X q ≠ x) (fun i => n - (intOf i).toNat)
  case atStart => exact ⟨0, Nat.zero_le _, rfl, fun q hq => absurd hq (Nat.not_lt_zero _)⟩
  case round =>
    obtain ⟨j, hj, rfl, hq⟩ := hrel
    have HQ : Hid (∀ q, q < j → X q ≠ x) := hq
    clear hq
    by_cases hlt : j < n
    · have e0 := h j hlt
      clear h
      go_wp2
      · have he : (x.toList == (X j).toList) = true := by assumption
        rw [str_eq, decide_eq_true_iff] at he
        go_ret
        exact ⟨⟨j, rfl, fun _ => ⟨j, hlt, he.symm⟩, fun _ => by omega⟩, rfl⟩
      · have he : (x.toList == (X j).toList) = false := by assumption
        rw [str_eq, decide_eq_false_iff_not] at he
        go_round
        case rel => exact ⟨j + 1, by omega, by go_num, fun q hq => by
          by_cases e : q = j
          · subst e; exact fun e => he e.symm
          · exact HQ.out q (by omega)⟩
        case measure => simp [intOf]; omega
    · clear h
      go_wp2
      go_ret
      exact ⟨⟨-1, rfl, fun h => by omega, fun ⟨i, hi, e⟩ => absurd e (HQ.out i (by omega))⟩, rfl⟩

set_option maxHeartbeats 1000000 in
theorem contains_any (k : Int) (hk : ¬ k = 0) (b off n c : Nat) (X : Nat → ByteArray) (x : ByteArray) (w : World) (hn : n ≤ 1048576) (h : StrRow w b off n X) :
    Calls Try.prog 40 #[.slice (some ⟨b, off, none⟩) n c, .string x] w fun e w' => e = .returned (.bool (among n (fun i => keyOf k (X i)) (keyOf k x))) ∧ w' = w := by
  go_enter Try.func40, Try.ntmps40
  go_wp2_with fail
  refine (index_any b off n c X x _ hn h).mono ?_
  rintro e w1 ⟨⟨r, rfl, hr⟩, hw1⟩
  subst hw1
  have hf : Hid (decide (0 ≤ r) = among n (fun i => keyOf k (X i)) (keyOf k x)) := by
    show decide (0 ≤ r) = among n (fun i => keyOf k (X i)) (keyOf k x)
    rw [Bool.eq_iff_iff, decide_eq_true_iff, hr, among_iff]
    constructor
    · rintro ⟨i, hi, e⟩
      exact ⟨i, hi, (keyOf_inj hk).2 e⟩
    · rintro ⟨i, hi, e⟩
      exact ⟨i, hi, (keyOf_inj hk).1 e⟩
  clear hr h
  go_wp2_with fail
  go_ret
  exact ⟨ret_bool hf.out, rfl⟩

/-- what 'matches' reads: the group at block bg, the value at block bw -/
structure Read (w : World) (bg bw : Nat) (gn : Bool) (gk : Int) (b off n c : Nat) (X : Nat → ByteArray) (x : ByteArray) (wk : Int) (wn : Bool) : Prop where
  g0 : w.cell? ⟨bg, 0, none⟩ = some (.bool gn)
  g1 : w.cell? ⟨bg, 1, none⟩ = some (.int .u8 gk)
  g2 : w.cell? ⟨bg, 2, none⟩ = some (.slice (some ⟨b, off, none⟩) n c)
  w0 : w.cell? ⟨bw, 0, none⟩ = some (.string x)
  w9 : w.cell? ⟨bw, 9, none⟩ = some (.int .u8 wk)
  w10 : w.cell? ⟨bw, 10, none⟩ = some (.bool wn)
  row : StrRow w b off n X
  short : Short n X
  len : n ≤ 65536
  size : x.size ≤ 65536

theorem Read.drewN {w : World} {bg bw : Nat} {gn : Bool} {gk : Int} {b off n c : Nat} {X : Nat → ByteArray} {x : ByteArray} {wk : Int} {wn : Bool} (h : Read w bg bw gn gk b off n c X x wk wn) (d : Nat) : Read (w.drewN d) bg bw gn gk b off n c X x wk wn :=
  ⟨h.g0, h.g1, h.g2, h.w0, h.w9, h.w10, h.row, h.short, h.len, h.size⟩

theorem drawn_cells {w w1 : World} {p q r : Addr} {u v t : Value} (h : ∃ d, w1 = w.drew.drewN d) (h1 : w.cell? p = some u) (h2 : w.cell? q = some v) (h3 : w.cell? r = some t) : w1.cell? p = some u ∧ w1.cell? q = some v ∧ w1.cell? r = some t := by
  obtain ⟨d, rfl⟩ := h
  exact ⟨h1, h2, h3⟩

theorem drew_drewN {w w1 : World} (h : ∃ d, w1 = w.drew.drewN d) : ∃ d, w1 = w.drewN d := by
  obtain ⟨d, rfl⟩ := h
  exact ⟨1 + d, by rw [← World.drewN_drewN]; rfl⟩
theorem drew_trans {w wr w1 : World} (h : ∃ d, wr = w.drewN d) (h1 : ∃ d, w1 = wr.drewN d) : ∃ d, w1 = w.drewN d := by
  obtain ⟨d, rfl⟩ := h
  obtain ⟨d1, rfl⟩ := h1
  exact ⟨d + d1, by rw [World.drewN_drewN]⟩

/-- none of the first j texts is the token -/
def NotYet (_n : Nat) (X : Nat → ByteArray) (x : ByteArray) (j : Nat) : Prop := ∀ q, q < j → keyOf 0 (X q) ≠ keyOf 0 x
theorem NotYet.succ {n j : Nat} {X : Nat → ByteArray} {x : ByteArray} (h : NotYet n X x j) (hj : keyOf 0 (X j) ≠ keyOf 0 x) : NotYet n X x (j + 1) := fun q hq => by
  by_cases e : q = j
  · subst e; exact hj
  · exact h q (by omega)

set_option maxHeartbeats 2000000 in
theorem holdsMatch_any (w : World) (bg bw : Nat) (gn : Bool) (gk : Int) (b off n c : Nat) (X : Nat → ByteArray) (x : ByteArray) (wk : Int) (wn : Bool) (h : Read w bg bw gn gk b off n c X x wk wn) (hk : wk = 0 ∨ wk = 1) (hr : Rising n (fun i => keyOf wk (X i))) :
    Calls Try.prog 30 #[.pointer (some ⟨bg, 0, none⟩), .pointer (some ⟨bw, 0, none⟩)] w fun e w' => e = .returned (.bool (among n (fun i => keyOf wk (X i)) (keyOf wk x))) ∧ ∃ d, w' = w.drewN d := by
  have g2 := h.g2
  have w0 := h.w0
  have w9 := h.w9
  have hlen := h.len
  have hsize := h.size
  have HH : Hid (Read w bg bw gn gk b off n c X x wk wn) := h
  have HR : Hid (Rising n (fun i => keyOf wk (X i))) := hr
  have k2 : (wk == 2) = false := by rw [beq_eq_false_iff_ne]; omega
  clear h hr
  by_cases h4 : 4 < n
  · have d4 : decide ((4 : Int) < (n : Int)) = true := by simp; omega
    go_enter Try.func30, Try.ntmps30
    go_wp2_with fail
    go_region_held3 (fun w' => w'.cell? ⟨bg, 2, none⟩ = some (.slice (some ⟨b, off, none⟩) n c) ∧ w'.cell? ⟨bw, 0, none⟩ = some (.string x) ∧ w'.cell? ⟨bw, 9, none⟩ = some (.int .u8 wk))
      (first | exact ⟨g2, w0, w9⟩ | exact ⟨hkeep.1, hkeep.2.1, hkeep.2.2⟩)
      ((go_at_call 38; refine (binarySearch_any wk b off n c X x w.drew (by omega) (by omega) HH.out.short HH.out.row HR.out).mono ?_; rintro e w1 ⟨⟨r, rfl⟩, hw1⟩; have hkeep : w1.cell? ⟨bg, 2, none⟩ = some (.slice (some ⟨b, off, none⟩) n c) ∧ w1.cell? ⟨bw, 0, none⟩ = some (.string x) ∧ w1.cell? ⟨bw, 9, none⟩ = some (.int .u8 wk) := drawn_cells hw1 g2 w0 w9; have hd1 : Hid (∃ d, w1 = w.drew.drewN d) := hw1; clear hw1))
    go_wp2_with fail
    go_ret
    exact ⟨rfl, drew_drewN hd1.out⟩
  · have d4 : decide ((4 : Int) < (n : Int)) = false := by simp; omega
    rcases hk with rfl | rfl
    · go_enter Try.func30, Try.ntmps30
      go_wp2_with fail
      go_loopw [62] (fun i wr => ∃ j : Nat, j ≤ n ∧ i = .int .i64 j ∧ Hid (∃ d, wr = w.drewN d) ∧ NotYet n X x j) (fun i _ => n - (intOf i).toNat)
      case atStart => exact ⟨0, Nat.zero_le _, rfl, ⟨0, rfl⟩, fun q hq => absurd hq (Nat.not_lt_zero _)⟩
      case round =>
        obtain ⟨j, hj, rfl, hd, hny⟩ := hrel
        by_cases hjn : j < n
        · have hR : Hid (Read wr bg bw gn gk b off n c X x 0 wn) := by
            obtain ⟨d, rfl⟩ := hd.out
            exact HH.out.drewN d
          have e0 := hR.out.row j hjn
          have w0' := hR.out.w0
          have hsz := HH.out.short j hjn
          by_cases hs : (X j).size = x.size
          · have hsb : (((X j).size : Int) == (x.size : Int)) = true := by rw [beq_iff_eq]; omega
            have HS : Hid ((X j).size = x.size) := hs
            clear hs
            go_wp2_with fail
            refine (equalFold_any (X j) x _ (by omega) HS.out).mono ?_
            rintro e w1 ⟨rfl, hw1⟩
            have hd1 : Hid (∃ d, w1 = w.drewN d) := drew_trans hd.out hw1
            clear hw1 e0 w0'
            cases hq : eqK 0 (X j) x with
            | true =>
              have hf : Hid (among n (fun i => keyOf 0 (X i)) (keyOf 0 x) = true) := among_iff.2 ⟨j, hjn, cmpL_eq.1 (of_decide_eq_true hq)⟩
              go_wp2_with fail
              go_ret
              exact ⟨ret_bool hf.out.symm, hd1.out⟩
            | false =>
              have hny2 : NotYet n X x (j + 1) := hny.succ (fun e => of_decide_eq_false hq (cmpL_eq.2 e))
              clear hny
              go_wp2_with fail
              go_roundw
              case rel => exact ⟨j + 1, by omega, by go_num, hd1, hny2⟩
              case measure => simp [intOf]; omega
          · have hsb : (((X j).size : Int) == (x.size : Int)) = false := by rw [beq_eq_false_iff_ne]; omega
            have hny2 : NotYet n X x (j + 1) := hny.succ (fun e => of_decide_eq_false (eqK_size (k := 0) hs) (cmpL_eq.2 e))
            clear hny hs
            go_wp2_with fail
            go_roundw
            case rel => exact ⟨j + 1, by omega, by go_num, hd, hny2⟩
            case measure => simp [intOf]; omega
        · have hf : Hid (among n (fun i => keyOf 0 (X i)) (keyOf 0 x) = false) := among_false (fun i hi => hny i (by omega))
          go_wp2_with fail
          go_ret
          exact ⟨ret_bool hf.out.symm, hd.out⟩
    · go_enter Try.func30, Try.ntmps30
      go_wp2_with fail
      go_quiet ((go_at_call 40; exact Calls.quiet_of_same (contains_any 1 (by decide) b off n c X x _ (by omega) HH.out.row)))
      go_wp2_with fail
      go_ret
      exact ⟨rfl, nq, rfl⟩
end Go.Proofs.Qxb6614662a
