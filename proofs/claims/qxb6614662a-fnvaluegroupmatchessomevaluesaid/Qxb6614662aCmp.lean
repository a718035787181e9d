import Derived.Test.Qxb6614662aRows
import Derived.Test.Qxb6614662aPlain
import Derived.WalkKit
import Derived.WalkSpells
import Derived.WalkLawsBesides
import Derived.BigQuiet
import Derived.Deep.QuietTactic
import Derived.Deep.RegionHeld3
import Derived.Lib.Bytealg
namespace Go.Proofs.Qxb6614662a
open Go.RowKit

theorem Try.own : ownKnob Try.prog.godebug = none := by kernel_rfl
theorem Try.laidOut : laidOutB Try.prog = true := by kernel_rfl
theorem Try.cells9 : Try.prog.cellsOf 9 = 1 := by kernel_rfl

/-- a text as kind k looks at it -/
def keyOf (k : Int) (s : ByteArray) : List Int := s.data.toList.map fun c => look k c.toNat

theorem keyOf_length (k : Int) (s : ByteArray) : (keyOf k s).length = s.size := by
  simp [keyOf]
theorem keyOf_drop (k : Int) (s : ByteArray) (i : Nat) (h : i < s.size) : (keyOf k s).drop i = look k (s[i]'h).toNat :: (keyOf k s).drop (i + 1) := by
  rw [List.drop_eq_getElem_cons (by rw [keyOf_length]; exact h)]
  congr 1
  simp [keyOf]
  rfl
theorem keyOf_end (k : Int) (s : ByteArray) (i : Nat) (h : s.size ≤ i) : (keyOf k s).drop i = [] := List.drop_of_length_le (by rw [keyOf_length]; exact h)

theorem byte_bd (c : UInt8) : (0 : Int) ≤ (c.toNat : Int) ∧ (c.toNat : Int) ≤ 255 := by
  have := c.toNat_lt
  omega

theorem ret_int {k : IntKind} {a b : Int} (h : a = b) : Ending.returned (.int k a) = .returned (.int k b) := by rw [h]

set_option maxHeartbeats 400000 in
theorem lowerByte_any (c : Int) (w : World) (h0 : 0 ≤ c) (h1 : c ≤ 255) : Calls Try.prog 29 #[.int .u8 c] w fun e w' => e = .returned (.int .u8 (low c)) ∧ w' = w := by
  unfold low
  by_cases h2 : 65 ≤ c
  · have d1 : decide (65 ≤ c) = true := by simp [h2]
    by_cases h3 : c ≤ 90
    · have d2 : decide (c ≤ 90) = true := by simp [h3]
      rw [if_pos ⟨h2, h3⟩]
      go_enter Try.func29, Try.ntmps29
      go_wp2
      go_ret
      exact ⟨ret_int (by omega), rfl⟩
    · have d2 : decide (c ≤ 90) = false := by simp; omega
      rw [if_neg (by omega)]
      go_enter Try.func29, Try.ntmps29
      go_wp2
      go_ret
      exact ⟨rfl, rfl⟩
  · have d1 : decide (65 ≤ c) = false := by simp; omega
    rw [if_neg (by omega)]
    go_enter Try.func29, Try.ntmps29
    go_wp2
    go_ret
    exact ⟨rfl, rfl⟩

set_option maxHeartbeats 400000 in
theorem lowerASCII_any (c : Int) (w : World) (h0 : 0 ≤ c) (h1 : c ≤ 255) : Calls Try.prog 47 #[.int .u8 c] w fun e w' => e = .returned (.int .u8 (low c)) ∧ w' = w := by
  unfold low
  by_cases h2 : 65 ≤ c
  · have d1 : decide (65 ≤ c) = true := by simp [h2]
    by_cases h3 : c ≤ 90
    · have d2 : decide (c ≤ 90) = true := by simp [h3]
      rw [if_pos ⟨h2, h3⟩]
      go_enter Try.func47, Try.ntmps47
      go_wp2
      go_ret
      exact ⟨ret_int (by omega), rfl⟩
    · have d2 : decide (c ≤ 90) = false := by simp; omega
      rw [if_neg (by omega)]
      go_enter Try.func47, Try.ntmps47
      go_wp2
      go_ret
      exact ⟨rfl, rfl⟩
  · have d1 : decide (65 ≤ c) = false := by simp; omega
    rw [if_neg (by omega)]
    go_enter Try.func47, Try.ntmps47
    go_wp2
    go_ret
    exact ⟨rfl, rfl⟩

/-- the rest of two texts decides -/
def rest (k : Int) (a b : ByteArray) (i : Nat) : Int := cmpL ((keyOf k a).drop i) ((keyOf k b).drop i)
theorem rest_zero (k : Int) (a b : ByteArray) : rest k a b 0 = cmpL (keyOf k a) (keyOf k b) := by simp [rest]
theorem rest_step (k : Int) (a b : ByteArray) (i : Nat) (ha : i < a.size) (hb : i < b.size) :
    rest k a b i = if look k (a[i]'ha).toNat < look k (b[i]'hb).toNat then -1 else if look k (b[i]'hb).toNat < look k (a[i]'ha).toNat then 1 else rest k a b (i + 1) := by
  unfold rest
  rw [keyOf_drop k a i ha, keyOf_drop k b i hb]
  rfl
theorem rest_end (k : Int) (a b : ByteArray) (i : Nat) (h : a.size ≤ i ∨ b.size ≤ i) (hi : i ≤ a.size) (hj : i ≤ b.size) : rest k a b i = if a.size < b.size then -1 else if b.size < a.size then 1 else 0 := by
  unfold rest
  by_cases h1 : a.size < b.size
  · rw [if_pos h1, keyOf_end k a i (by omega), keyOf_drop k b i (by omega)]
    rfl
  · rw [if_neg h1]
    by_cases h2 : b.size < a.size
    · rw [if_pos h2, keyOf_end k b i (by omega), keyOf_drop k a i (by omega)]
      rfl
    · rw [if_neg h2, keyOf_end k a i (by omega), keyOf_end k b i (by omega)]
      rfl

theorem look_zero (c : Int) : look 0 c = low c := rfl
theorem look_ne {k : Int} (h : ¬ k = 0) (c : Int) : look k c = c := if_neg h

set_option maxHeartbeats 2000000 in
theorem kindCompare_any (k : Int) (a b : ByteArray) (w : World) (ha : a.size ≤ 1048576) (hb : b.size ≤ 1048576) :
    Calls Try.prog 24 #[.int .u8 k, .string a, .string b] w fun e w' => e = .returned (.int .i64 (cmpL (keyOf k a) (keyOf k b))) ∧ w' = w := by
  rw [← rest_zero]
  by_cases hlt : b.size < a.size
  · skip
    go_enter Try.func24, Try.ntmps24
    go_wp2
    go_loop [8] (fun i => ∃ j : Nat, j ≤ b.size ∧ i = .int .i64 j ∧ Hid (rest k a b 0 = rest k a b j)) (fun i => b.size - (intOf i).toNat)
    case atStart => exact ⟨0, Nat.zero_le _, rfl, rfl⟩
    case round =>
      obtain ⟨j, hj, rfl, hr⟩ := hrel
      by_cases hjn : j < b.size
      · have ja : j < a.size := by omega
        have jb : j < b.size := by omega
        have hst : Hid (rest k a b 0 = _) := (show rest k a b 0 = _ from hr.out).trans (rest_step k a b j ja jb)
        clear hr
        have ba := byte_bd (a[j]'ja)
        have bb := byte_bd (b[j]'jb)
        by_cases hk : k = 0
        · subst hk
          by_cases h1 : low (a[j]'ja).toNat < low (b[j]'jb).toNat
          · have hfin : Hid (rest 0 a b 0 = -1) := (show rest 0 a b 0 = _ from hst.out).trans (if_pos h1)
            go_wp2_with fail
            refine (lowerByte_any _ _ ba.1 ba.2).mono ?_
            rintro e w1 ⟨rfl, hw1⟩
            subst hw1
            go_wp2_with fail
            refine (lowerByte_any _ _ bb.1 bb.2).mono ?_
            rintro e w2 ⟨rfl, hw2⟩
            subst hw2
            go_wp2_with fail
            go_ret
            exact ⟨ret_int hfin.out.symm, rfl⟩
          · by_cases h2 : low (b[j]'jb).toNat < low (a[j]'ja).toNat
            · have hfin : Hid (rest 0 a b 0 = 1) := (show rest 0 a b 0 = _ from hst.out).trans ((if_neg h1).trans (if_pos h2))
              go_wp2_with fail
              refine (lowerByte_any _ _ ba.1 ba.2).mono ?_
              rintro e w1 ⟨rfl, hw1⟩
              subst hw1
              go_wp2_with fail
              refine (lowerByte_any _ _ bb.1 bb.2).mono ?_
              rintro e w2 ⟨rfl, hw2⟩
              subst hw2
              go_wp2_with fail
              go_ret
              exact ⟨ret_int hfin.out.symm, rfl⟩
            · have hfin : Hid (rest 0 a b 0 = rest 0 a b (j + 1)) := (show rest 0 a b 0 = _ from hst.out).trans ((if_neg h1).trans (if_neg h2))
              go_wp2_with fail
              refine (lowerByte_any _ _ ba.1 ba.2).mono ?_
              rintro e w1 ⟨rfl, hw1⟩
              subst hw1
              go_wp2_with fail
              refine (lowerByte_any _ _ bb.1 bb.2).mono ?_
              rintro e w2 ⟨rfl, hw2⟩
              subst hw2
              go_wp2_with fail
              go_round
              case rel => exact ⟨j + 1, by omega, by go_num, hfin⟩
              case measure => simp [intOf]; omega
        · have hkb : (k == 0) = false := by simp [hk]
          rw [look_ne hk, look_ne hk] at hst
          by_cases h1 : ((a[j]'ja).toNat : Int) < ((b[j]'jb).toNat : Int)
          · have hfin : Hid (rest k a b 0 = -1) := (show rest k a b 0 = _ from hst.out).trans (if_pos h1)
            go_wp2_with fail
            go_ret
            exact ⟨ret_int hfin.out.symm, rfl⟩
          · by_cases h2 : ((b[j]'jb).toNat : Int) < ((a[j]'ja).toNat : Int)
            · have hfin : Hid (rest k a b 0 = 1) := (show rest k a b 0 = _ from hst.out).trans ((if_neg h1).trans (if_pos h2))
              go_wp2_with fail
              go_ret
              exact ⟨ret_int hfin.out.symm, rfl⟩
            · have hfin : Hid (rest k a b 0 = rest k a b (j + 1)) := (show rest k a b 0 = _ from hst.out).trans ((if_neg h1).trans (if_neg h2))
              go_wp2_with fail
              go_round
              case rel => exact ⟨j + 1, by omega, by go_num, hfin⟩
              case measure => simp [intOf]; omega
      · have hfin : Hid (rest k a b 0 = _) := (show rest k a b 0 = _ from hr.out).trans (rest_end k a b j (by omega) (by omega) (by omega))
        clear hr
        by_cases h1 : a.size < b.size
        · omega
        · rw [if_neg h1] at hfin
          by_cases h2 : b.size < a.size
          · rw [if_pos h2] at hfin
            go_wp2_with fail
            go_ret
            exact ⟨ret_int hfin.out.symm, rfl⟩
          · omega
  · skip
    go_enter Try.func24, Try.ntmps24
    go_wp2
    go_loop [8] (fun i => ∃ j : Nat, j ≤ a.size ∧ i = .int .i64 j ∧ Hid (rest k a b 0 = rest k a b j)) (fun i => a.size - (intOf i).toNat)
    case atStart => exact ⟨0, Nat.zero_le _, rfl, rfl⟩
    case round =>
      obtain ⟨j, hj, rfl, hr⟩ := hrel
      by_cases hjn : j < a.size
      · have ja : j < a.size := by omega
        have jb : j < b.size := by omega
        have hst : Hid (rest k a b 0 = _) := (show rest k a b 0 = _ from hr.out).trans (rest_step k a b j ja jb)
        clear hr
        have ba := byte_bd (a[j]'ja)
        have bb := byte_bd (b[j]'jb)
        by_cases hk : k = 0
        · subst hk
          by_cases h1 : low (a[j]'ja).toNat < low (b[j]'jb).toNat
          · have hfin : Hid (rest 0 a b 0 = -1) := (show rest 0 a b 0 = _ from hst.out).trans (if_pos h1)
            go_wp2_with fail
            refine (lowerByte_any _ _ ba.1 ba.2).mono ?_
            rintro e w1 ⟨rfl, hw1⟩
            subst hw1
            go_wp2_with fail
            refine (lowerByte_any _ _ bb.1 bb.2).mono ?_
            rintro e w2 ⟨rfl, hw2⟩
            subst hw2
            go_wp2_with fail
            go_ret
            exact ⟨ret_int hfin.out.symm, rfl⟩
          · by_cases h2 : low (b[j]'jb).toNat < low (a[j]'ja).toNat
            · have hfin : Hid (rest 0 a b 0 = 1) := (show rest 0 a b 0 = _ from hst.out).trans ((if_neg h1).trans (if_pos h2))
              go_wp2_with fail
              refine (lowerByte_any _ _ ba.1 ba.2).mono ?_
              rintro e w1 ⟨rfl, hw1⟩
              subst hw1
              go_wp2_with fail
              refine (lowerByte_any _ _ bb.1 bb.2).mono ?_
              rintro e w2 ⟨rfl, hw2⟩
              subst hw2
              go_wp2_with fail
              go_ret
              exact ⟨ret_int hfin.out.symm, rfl⟩
            · have hfin : Hid (rest 0 a b 0 = rest 0 a b (j + 1)) := (show rest 0 a b 0 = _ from hst.out).trans ((if_neg h1).trans (if_neg h2))
              go_wp2_with fail
              refine (lowerByte_any _ _ ba.1 ba.2).mono ?_
              rintro e w1 ⟨rfl, hw1⟩
              subst hw1
              go_wp2_with fail
              refine (lowerByte_any _ _ bb.1 bb.2).mono ?_
              rintro e w2 ⟨rfl, hw2⟩
              subst hw2
              go_wp2_with fail
              go_round
              case rel => exact ⟨j + 1, by omega, by go_num, hfin⟩
              case measure => simp [intOf]; omega
        · have hkb : (k == 0) = false := by simp [hk]
          rw [look_ne hk, look_ne hk] at hst
          by_cases h1 : ((a[j]'ja).toNat : Int) < ((b[j]'jb).toNat : Int)
          · have hfin : Hid (rest k a b 0 = -1) := (show rest k a b 0 = _ from hst.out).trans (if_pos h1)
            go_wp2_with fail
            go_ret
            exact ⟨ret_int hfin.out.symm, rfl⟩
          · by_cases h2 : ((b[j]'jb).toNat : Int) < ((a[j]'ja).toNat : Int)
            · have hfin : Hid (rest k a b 0 = 1) := (show rest k a b 0 = _ from hst.out).trans ((if_neg h1).trans (if_pos h2))
              go_wp2_with fail
              go_ret
              exact ⟨ret_int hfin.out.symm, rfl⟩
            · have hfin : Hid (rest k a b 0 = rest k a b (j + 1)) := (show rest k a b 0 = _ from hst.out).trans ((if_neg h1).trans (if_neg h2))
              go_wp2_with fail
              go_round
              case rel => exact ⟨j + 1, by omega, by go_num, hfin⟩
              case measure => simp [intOf]; omega
      · have hfin : Hid (rest k a b 0 = _) := (show rest k a b 0 = _ from hr.out).trans (rest_end k a b j (by omega) (by omega) (by omega))
        clear hr
        by_cases h1 : a.size < b.size
        · rw [if_pos h1] at hfin
          go_wp2_with fail
          go_ret
          exact ⟨ret_int hfin.out.symm, rfl⟩
        · rw [if_neg h1] at hfin
          by_cases h2 : b.size < a.size
          · omega
          · rw [if_neg h2] at hfin
            go_wp2_with fail
            go_ret
            exact ⟨ret_int hfin.out.symm, rfl⟩
end Go.Proofs.Qxb6614662a
