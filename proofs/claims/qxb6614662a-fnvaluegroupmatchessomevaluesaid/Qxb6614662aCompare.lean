import Derived.Test.Qxb6614662aCmp
namespace Go.Proofs.Qxb6614662a
open Go.RowKit

theorem isNaN_int (x : Int) (w : World) : Calls Try.prog 43 #[.int .i64 x] w fun e w' => e = .returned (.bool false) ∧ w' = w := by
  go_enter Try.func43, Try.ntmps43
  go_wp2
  go_ret
  exact ⟨rfl, rfl⟩
theorem isNaN_byte (x : Int) (w : World) : Calls Try.prog 51 #[.int .u8 x] w fun e w' => e = .returned (.bool false) ∧ w' = w := by
  go_enter Try.func51, Try.ntmps51
  go_wp2
  go_ret
  exact ⟨rfl, rfl⟩

def cmpInt (x y : Int) : Int := if x < y then -1 else if y < x then 1 else 0

set_option maxHeartbeats 400000 in
theorem compare_int (x y : Int) (w : World) : Calls Try.prog 33 #[.int .i64 x, .int .i64 y] w fun e w' => e = .returned (.int .i64 (cmpInt x y)) ∧ w' = w := by
  unfold cmpInt
  by_cases h1 : x < y
  · rw [if_pos h1]
    go_enter Try.func33, Try.ntmps33
    go_wp2_with (go_at_call 43; refine (isNaN_int _ _).mono ?_; rintro e w' ⟨rfl, rfl⟩)
    go_ret
    exact ⟨rfl, rfl⟩
  · rw [if_neg h1]
    by_cases h2 : y < x
    · rw [if_pos h2]
      go_enter Try.func33, Try.ntmps33
      go_wp2_with (go_at_call 43; refine (isNaN_int _ _).mono ?_; rintro e w' ⟨rfl, rfl⟩)
      go_ret
      exact ⟨rfl, rfl⟩
    · rw [if_neg h2]
      go_enter Try.func33, Try.ntmps33
      go_wp2_with (go_at_call 43; refine (isNaN_int _ _).mono ?_; rintro e w' ⟨rfl, rfl⟩)
      go_ret
      exact ⟨rfl, rfl⟩

set_option maxHeartbeats 400000 in
theorem compare_byte (x y : Int) (w : World) : Calls Try.prog 48 #[.int .u8 x, .int .u8 y] w fun e w' => e = .returned (.int .i64 (cmpInt x y)) ∧ w' = w := by
  unfold cmpInt
  by_cases h1 : x < y
  · rw [if_pos h1]
    go_enter Try.func48, Try.ntmps48
    go_wp2_with (go_at_call 51; refine (isNaN_byte _ _).mono ?_; rintro e w' ⟨rfl, rfl⟩)
    go_ret
    exact ⟨rfl, rfl⟩
  · rw [if_neg h1]
    by_cases h2 : y < x
    · rw [if_pos h2]
      go_enter Try.func48, Try.ntmps48
      go_wp2_with (go_at_call 51; refine (isNaN_byte _ _).mono ?_; rintro e w' ⟨rfl, rfl⟩)
      go_ret
      exact ⟨rfl, rfl⟩
    · rw [if_neg h2]
      go_enter Try.func48, Try.ntmps48
      go_wp2_with (go_at_call 51; refine (isNaN_byte _ _).mono ?_; rintro e w' ⟨rfl, rfl⟩)
      go_ret
      exact ⟨rfl, rfl⟩

set_option maxHeartbeats 1000000 in
set_option maxRecDepth 100000 in
theorem compareString_any (a b : ByteArray) (w : World) :
    Calls Try.prog 44 #[.string a, .string b] w fun e w' => e = .returned (.int .i64 (Lib.compareBytes a.data.toList b.data.toList)) ∧ w' = w := by
  go_enter Try.func44, Try.ntmps44
  go_wp2
  rw [run_callFunc_extern Try.func50 (by kernel_rfl) (by kernel_rfl) (by kernel_rfl) (e := Extern.BytealgCompare.compare) (by kernel_rfl), Lib.run_compareString]
  simp only [Result.andThen]
  rw [Oper.upon_value]
  go_wp2
  go_ret
  exact ⟨rfl, rfl⟩

theorem stringsCompare_any (a b : ByteArray) (w : World) :
    Calls Try.prog 34 #[.string a, .string b] w fun e w' => e = .returned (.int .i64 (Lib.compareBytes a.data.toList b.data.toList)) ∧ w' = w := by
  go_enter Try.func34, Try.ntmps34
  go_wp2_with (go_at_call 44; refine (compareString_any _ _ _).mono ?_; rintro e w' ⟨rfl, rfl⟩)
  go_ret
  exact ⟨rfl, rfl⟩

theorem compareBytes_cmpL : ∀ a b : List UInt8, Lib.compareBytes a b = cmpL (a.map fun c => (c.toNat : Int)) (b.map fun c => (c.toNat : Int))
  | [], [] => rfl
  | [], _ :: _ => rfl
  | _ :: _, [] => rfl
  | a :: ta, b :: tb => by
    simp only [Lib.compareBytes, List.map_cons, cmpL, compareBytes_cmpL ta tb, UInt8.lt_iff_toNat_lt, Int.ofNat_lt]

theorem keyOf_raw {k : Int} (hk : ¬ k = 0) (s : ByteArray) : keyOf k s = s.data.toList.map fun c => (c.toNat : Int) := by
  unfold keyOf
  congr 1
  funext c
  exact look_ne hk _

theorem drew_more {w wr : World} (h : ∃ d, wr = w.drewN d) (k : Nat) : ∃ d, wr.drewN k = w.drewN d := by
  obtain ⟨d, rfl⟩ := h
  exact ⟨d + k, by rw [World.drewN_drewN]⟩

set_option maxHeartbeats 2000000 in
/-- compare, of kind k -/
theorem compare_any (k : Int) (a b : ByteArray) (w : World) (ha : a.size ≤ 1048576) (hb : b.size ≤ 1048576) :
    Calls Try.prog 39 #[.int .u8 k, .string a, .string b] w fun e w' => e = .returned (.int .i64 (cmpL (keyOf k a) (keyOf k b))) ∧ ∃ n, w' = w.drewN n := by
  by_cases hk : k = 0
  · subst hk
    rw [← rest_zero]
    by_cases hlt : b.size < a.size
    · skip
      go_enter Try.func39, Try.ntmps39
      go_wp2
      go_loopw [20] (fun i wr => ∃ j : Nat, j ≤ b.size ∧ i = .int .i64 j ∧ Hid (∃ d, wr = w.drewN d) ∧ Hid (rest 0 a b 0 = rest 0 a b j)) (fun i _ => b.size - (intOf i).toNat)
      case atStart => exact ⟨0, Nat.zero_le _, rfl, ⟨0, rfl⟩, rfl⟩
      case round =>
        obtain ⟨j, hj, rfl, hd, hr⟩ := hrel
        by_cases hjn : j < b.size
        · have ja : j < a.size := by omega
          have jb : j < b.size := by omega
          have hst : Hid (rest 0 a b 0 = _) := (show rest 0 a b 0 = _ from hr.out).trans (rest_step 0 a b j ja jb)
          clear hr
          have ba := byte_bd (a[j]'ja)
          have bb := byte_bd (b[j]'jb)
          have i1 : (j : Int) < (a.size : Int) := by omega
          have i2 : (j : Int) < (b.size : Int) := by omega
          go_wp2
          go_quiet ((first | (go_at_call 47; exact Calls.quiet_of_same (lowerASCII_any _ _ ba.1 ba.2)) | (go_at_call 47; exact Calls.quiet_of_same (lowerASCII_any _ _ bb.1 bb.2))))
          have hd2 : Hid (∃ d, wr.drewN nq = w.drewN d) := drew_more hd.out nq
          by_cases h1 : low (a[j]'ja).toNat < low (b[j]'jb).toNat
          · have hfin : Hid (rest 0 a b 0 = -1) := (show rest 0 a b 0 = _ from hst.out).trans (if_pos h1)
            have hne : (low (a[j]'ja).toNat != low (b[j]'jb).toNat) = true := by rw [bne_iff_ne]; omega
            have hci : Hid (cmpInt (low (a[j]'ja).toNat) (low (b[j]'jb).toNat) = -1) := if_pos h1
            go_wp2_with fail
            refine (compare_byte _ _ _).mono ?_
            rintro e w1 ⟨rfl, hw1⟩
            rw [← hw1] at hd2
            clear hw1
            go_wp2_with fail
            go_ret
            exact ⟨ret_int (hci.out.trans hfin.out.symm), hd2.out⟩
          · by_cases h2 : low (b[j]'jb).toNat < low (a[j]'ja).toNat
            · have hfin : Hid (rest 0 a b 0 = 1) := (show rest 0 a b 0 = _ from hst.out).trans ((if_neg h1).trans (if_pos h2))
              have hne : (low (a[j]'ja).toNat != low (b[j]'jb).toNat) = true := by rw [bne_iff_ne]; omega
              have hci : Hid (cmpInt (low (a[j]'ja).toNat) (low (b[j]'jb).toNat) = 1) := (if_neg h1).trans (if_pos h2)
              go_wp2_with fail
              refine (compare_byte _ _ _).mono ?_
              rintro e w1 ⟨rfl, hw1⟩
              rw [← hw1] at hd2
              clear hw1
              go_wp2_with fail
              go_ret
              exact ⟨ret_int (hci.out.trans hfin.out.symm), hd2.out⟩
            · have hfin : Hid (rest 0 a b 0 = rest 0 a b (j + 1)) := (show rest 0 a b 0 = _ from hst.out).trans ((if_neg h1).trans (if_neg h2))
              have hne : (low (a[j]'ja).toNat != low (b[j]'jb).toNat) = false := by rw [bne_eq_false_iff_eq]; omega
              go_wp2_with fail
              go_roundw
              case rel => exact ⟨j + 1, by omega, by go_num, hd2, hfin⟩
              case measure => simp [intOf]; omega
        · have hfin : Hid (rest 0 a b 0 = _) := (show rest 0 a b 0 = _ from hr.out).trans (rest_end 0 a b j (by omega) (by omega) (by omega))
          have hci : Hid (cmpInt a.size b.size = if a.size < b.size then -1 else if b.size < a.size then 1 else 0) := by
            show cmpInt a.size b.size = _
            simp only [cmpInt, Int.ofNat_lt]
          clear hr
          go_wp2_with fail
          refine (compare_int _ _ _).mono ?_
          rintro e w1 ⟨rfl, hw1⟩
          rw [← hw1] at hd
          clear hw1
          go_wp2_with fail
          go_ret
          exact ⟨ret_int (hci.out.trans hfin.out.symm), hd.out⟩
    · skip
      go_enter Try.func39, Try.ntmps39
      go_wp2
      go_loopw [20] (fun i wr => ∃ j : Nat, j ≤ a.size ∧ i = .int .i64 j ∧ Hid (∃ d, wr = w.drewN d) ∧ Hid (rest 0 a b 0 = rest 0 a b j)) (fun i _ => a.size - (intOf i).toNat)
      case atStart => exact ⟨0, Nat.zero_le _, rfl, ⟨0, rfl⟩, rfl⟩
      case round =>
        obtain ⟨j, hj, rfl, hd, hr⟩ := hrel
        by_cases hjn : j < a.size
        · have ja : j < a.size := by omega
          have jb : j < b.size := by omega
          have hst : Hid (rest 0 a b 0 = _) := (show rest 0 a b 0 = _ from hr.out).trans (rest_step 0 a b j ja jb)
          clear hr
          have ba := byte_bd (a[j]'ja)
          have bb := byte_bd (b[j]'jb)
          have i1 : (j : Int) < (a.size : Int) := by omega
          have i2 : (j : Int) < (b.size : Int) := by omega
          go_wp2
          go_quiet ((first | (go_at_call 47; exact Calls.quiet_of_same (lowerASCII_any _ _ ba.1 ba.2)) | (go_at_call 47; exact Calls.quiet_of_same (lowerASCII_any _ _ bb.1 bb.2))))
          have hd2 : Hid (∃ d, wr.drewN nq = w.drewN d) := drew_more hd.out nq
          by_cases h1 : low (a[j]'ja).toNat < low (b[j]'jb).toNat
          · have hfin : Hid (rest 0 a b 0 = -1) := (show rest 0 a b 0 = _ from hst.out).trans (if_pos h1)
            have hne : (low (a[j]'ja).toNat != low (b[j]'jb).toNat) = true := by rw [bne_iff_ne]; omega
            have hci : Hid (cmpInt (low (a[j]'ja).toNat) (low (b[j]'jb).toNat) = -1) := if_pos h1
            go_wp2_with fail
            refine (compare_byte _ _ _).mono ?_
            rintro e w1 ⟨rfl, hw1⟩
            rw [← hw1] at hd2
            clear hw1
            go_wp2_with fail
            go_ret
            exact ⟨ret_int (hci.out.trans hfin.out.symm), hd2.out⟩
          · by_cases h2 : low (b[j]'jb).toNat < low (a[j]'ja).toNat
            · have hfin : Hid (rest 0 a b 0 = 1) := (show rest 0 a b 0 = _ from hst.out).trans ((if_neg h1).trans (if_pos h2))
              have hne : (low (a[j]'ja).toNat != low (b[j]'jb).toNat) = true := by rw [bne_iff_ne]; omega
              have hci : Hid (cmpInt (low (a[j]'ja).toNat) (low (b[j]'jb).toNat) = 1) := (if_neg h1).trans (if_pos h2)
              go_wp2_with fail
              refine (compare_byte _ _ _).mono ?_
              rintro e w1 ⟨rfl, hw1⟩
              rw [← hw1] at hd2
              clear hw1
              go_wp2_with fail
              go_ret
              exact ⟨ret_int (hci.out.trans hfin.out.symm), hd2.out⟩
            · have hfin : Hid (rest 0 a b 0 = rest 0 a b (j + 1)) := (show rest 0 a b 0 = _ from hst.out).trans ((if_neg h1).trans (if_neg h2))
              have hne : (low (a[j]'ja).toNat != low (b[j]'jb).toNat) = false := by rw [bne_eq_false_iff_eq]; omega
              go_wp2_with fail
              go_roundw
              case rel => exact ⟨j + 1, by omega, by go_num, hd2, hfin⟩
              case measure => simp [intOf]; omega
        · have hfin : Hid (rest 0 a b 0 = _) := (show rest 0 a b 0 = _ from hr.out).trans (rest_end 0 a b j (by omega) (by omega) (by omega))
          have hci : Hid (cmpInt a.size b.size = if a.size < b.size then -1 else if b.size < a.size then 1 else 0) := by
            show cmpInt a.size b.size = _
            simp only [cmpInt, Int.ofNat_lt]
          clear hr
          go_wp2_with fail
          refine (compare_int _ _ _).mono ?_
          rintro e w1 ⟨rfl, hw1⟩
          rw [← hw1] at hd
          clear hw1
          go_wp2_with fail
          go_ret
          exact ⟨ret_int (hci.out.trans hfin.out.symm), hd.out⟩
  · have hkb : (k != 0) = true := by simp [hk]
    rw [keyOf_raw hk, keyOf_raw hk, ← compareBytes_cmpL]
    go_enter Try.func39, Try.ntmps39
    go_wp2_with (go_at_call 34; refine (stringsCompare_any _ _ _).mono ?_; rintro e w' ⟨rfl, rfl⟩)
    go_ret
    exact ⟨rfl, 0, rfl⟩
end Go.Proofs.Qxb6614662a
