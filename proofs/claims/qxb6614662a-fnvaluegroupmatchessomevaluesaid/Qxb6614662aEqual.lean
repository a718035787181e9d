import Derived.Test.Qxb6614662aCompare
namespace Go.Proofs.Qxb6614662a
open Go.RowKit

/-- are two texts one, as kind k compares them -/
def eqK (k : Int) (a b : ByteArray) : Bool := decide (cmpL (keyOf k a) (keyOf k b) = 0)

theorem eqK_size {k : Int} {a b : ByteArray} (h : a.size ≠ b.size) : eqK k a b = false := by
  unfold eqK
  rw [decide_eq_false_iff_not, cmpL_eq]
  intro e
  have := congrArg List.length e
  rw [keyOf_length, keyOf_length] at this
  exact h this

theorem ret_bool {a b : Bool} (h : a = b) : Ending.returned (.bool a) = .returned (.bool b) := by rw [h]

theorem low_same {a b : Int} (h : a = b) : low a = low b := by rw [h]

set_option maxHeartbeats 2000000 in
theorem equalFold_any (a b : ByteArray) (w : World) (ha : a.size ≤ 1048576) (hab : a.size = b.size) :
    Calls Try.prog 41 #[.string a, .string b] w fun e w' => e = .returned (.bool (eqK 0 a b)) ∧ ∃ n, w' = w.drewN n := by
  have hb1 : a.size ≤ b.size := by omega
  have hb2 : b.size ≤ a.size := by omega
  have HAB : Hid (a.size = b.size) := hab
  clear hab
  go_enter Try.func41, Try.ntmps41
  go_wp2
  go_loopw [8] (fun i wr => ∃ j : Nat, j ≤ a.size ∧ i = .int .i64 j ∧ Hid (∃ d, wr = w.drewN d) ∧ Hid (rest 0 a b 0 = rest 0 a b j)) (fun i _ => a.size - (intOf i).toNat)
  case atStart => exact ⟨0, Nat.zero_le _, rfl, ⟨0, rfl⟩, rfl⟩
  case round =>
    obtain ⟨j, hj, rfl, hd, hr⟩ := hrel
    by_cases hjn : j < a.size
    · have jb : j < b.size := by omega
      have hst : Hid (rest 0 a b 0 = _) := (show rest 0 a b 0 = _ from hr.out).trans (rest_step 0 a b j hjn jb)
      clear hr
      have ba := byte_bd (a[j]'hjn)
      have bb := byte_bd (b[j]'jb)
      have i1 : (j : Int) < (a.size : Int) := by omega
      have i2 : (j : Int) < (b.size : Int) := by omega
      by_cases he : ((a[j]'hjn).toNat : Int) = ((b[j]'jb).toNat : Int)
      · have hg : (((a[j]'hjn).toNat : Int) != ((b[j]'jb).toNat : Int)) = false := by rw [bne_eq_false_iff_eq]; exact he
        have hl := low_same he
        have hfin : Hid (rest 0 a b 0 = rest 0 a b (j + 1)) := (show rest 0 a b 0 = _ from hst.out).trans ((if_neg (by rw [look_zero, look_zero]; omega)).trans (if_neg (by rw [look_zero, look_zero]; omega)))
        clear he hl
        go_wp2
        go_quiet (fail)
        have hd2 : Hid (∃ d, wr.drewN nq = w.drewN d) := drew_more hd.out nq
        go_wp2_with fail
        go_roundw
        case rel => exact ⟨j + 1, by omega, by go_num, hd2, hfin⟩
        case measure => simp [intOf]; omega
      · have hg : (((a[j]'hjn).toNat : Int) != ((b[j]'jb).toNat : Int)) = true := by rw [bne_iff_ne]; exact he
        by_cases hl : low (a[j]'hjn).toNat = low (b[j]'jb).toNat
        · have hg2 : (low (a[j]'hjn).toNat != low (b[j]'jb).toNat) = false := by rw [bne_eq_false_iff_eq]; exact hl
          have hfin : Hid (rest 0 a b 0 = rest 0 a b (j + 1)) := (show rest 0 a b 0 = _ from hst.out).trans ((if_neg (by rw [look_zero, look_zero]; omega)).trans (if_neg (by rw [look_zero, look_zero]; omega)))
          clear he hl
          go_wp2
          go_quiet ((first | (go_at_call 47; exact Calls.quiet_of_same (lowerASCII_any _ _ ba.1 ba.2)) | (go_at_call 47; exact Calls.quiet_of_same (lowerASCII_any _ _ bb.1 bb.2))))
          have hd2 : Hid (∃ d, wr.drewN nq = w.drewN d) := drew_more hd.out nq
          go_wp2_with fail
          go_roundw
          case rel => exact ⟨j + 1, by omega, by go_num, hd2, hfin⟩
          case measure => simp [intOf]; omega
        · have hg2 : (low (a[j]'hjn).toNat != low (b[j]'jb).toNat) = true := by rw [bne_iff_ne]; exact hl
          have hfin : Hid (eqK 0 a b = false) := by
            show decide (cmpL (keyOf 0 a) (keyOf 0 b) = 0) = false
            rw [decide_eq_false_iff_not, ← rest_zero, hst.out, look_zero, look_zero]
            by_cases h1 : low (a[j]'hjn).toNat < low (b[j]'jb).toNat
            · rw [if_pos h1]; omega
            · rw [if_neg h1, if_pos (by omega)]; omega
          clear he hl
          go_wp2
          go_quiet ((first | (go_at_call 47; exact Calls.quiet_of_same (lowerASCII_any _ _ ba.1 ba.2)) | (go_at_call 47; exact Calls.quiet_of_same (lowerASCII_any _ _ bb.1 bb.2))))
          have hd2 : Hid (∃ d, wr.drewN nq = w.drewN d) := drew_more hd.out nq
          go_wp2_with fail
          go_ret
          exact ⟨ret_bool hfin.out.symm, hd2.out⟩
    · have hfin : Hid (eqK 0 a b = true) := by
        show decide (cmpL (keyOf 0 a) (keyOf 0 b) = 0) = true
        rw [decide_eq_true_iff, ← rest_zero, hr.out, rest_end 0 a b j (by omega) (by omega) (by omega), if_neg (by omega), if_neg (by omega)]
      clear hr
      go_wp2_with fail
      go_ret
      exact ⟨ret_bool hfin.out.symm, hd.out⟩

theorem str_eq (a b : ByteArray) : (a.toList == b.toList) = decide (a = b) := by
  rw [Bool.eq_iff_iff, beq_iff_eq, decide_eq_true_iff, ByteArray.toList_eq, ByteArray.toList_eq]
  constructor
  · intro h
    cases a
    cases b
    simp_all
  · rintro rfl
    rfl

theorem toNat_map_inj : ∀ {a b : List UInt8}, (a.map fun c => (c.toNat : Int)) = (b.map fun c => (c.toNat : Int)) → a = b
  | [], [], _ => rfl
  | [], _ :: _, h => by simp at h
  | _ :: _, [], h => by simp at h
  | a :: ta, b :: tb, h => by
    simp only [List.map_cons, List.cons.injEq] at h
    have e : a = b := UInt8.toNat_inj.1 (by omega)
    rw [e, toNat_map_inj h.2]

theorem eqK_raw {k : Int} (hk : ¬ k = 0) (a b : ByteArray) : eqK k a b = (a.toList == b.toList) := by
  rw [str_eq]
  unfold eqK
  rw [Bool.eq_iff_iff, decide_eq_true_iff, decide_eq_true_iff, cmpL_eq, keyOf_raw hk, keyOf_raw hk]
  constructor
  · intro h
    have := toNat_map_inj h
    cases a
    cases b
    simp_all
  · rintro rfl
    rfl

set_option maxHeartbeats 1000000 in
theorem equal_any (k : Int) (a b : ByteArray) (w : World) (ha : a.size ≤ 1048576) :
    Calls Try.prog 42 #[.int .u8 k, .string a, .string b] w fun e w' => e = .returned (.bool (eqK k a b)) ∧ ∃ n, w' = w.drewN n := by
  by_cases hk : k = 0
  · subst hk
    by_cases hs : a.size = b.size
    · have hs1 : (a.size : Int) ≤ (b.size : Int) := by omega
      have hs2 : (b.size : Int) ≤ (a.size : Int) := by omega
      have hsb : ((a.size : Int) == (b.size : Int)) = true := by rw [beq_iff_eq]; omega
      have HS : Hid (a.size = b.size) := hs
      clear hs
      go_enter Try.func42, Try.ntmps42
      go_wp2_with fail
      refine (equalFold_any a b _ ha HS.out).mono ?_
      rintro e w1 ⟨rfl, hw1⟩
      have hd : Hid (∃ n, w1 = w.drewN n) := hw1
      clear hw1
      go_wp2_with fail
      go_ret
      exact ⟨rfl, hd.out⟩
    · have hsb : ((a.size : Int) == (b.size : Int)) = false := by rw [beq_eq_false_iff_ne]; omega
      have hq : Hid (eqK 0 a b = false) := eqK_size hs
      clear hs
      go_enter Try.func42, Try.ntmps42
      go_wp2_with fail
      go_ret
      exact ⟨ret_bool hq.out.symm, 0, rfl⟩
  · have hkb : (k != 0) = true := by simp [hk]
    rw [eqK_raw hk]
    go_enter Try.func42, Try.ntmps42
    go_wp2_with fail
    go_ret
    exact ⟨rfl, 0, rfl⟩
end Go.Proofs.Qxb6614662a
