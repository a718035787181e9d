import Derived.Test.Qxb6614662aEqual
namespace Go.Proofs.Qxb6614662a
open Go.RowKit

/-- n texts lie behind the slice's address -/
def StrRow (w : World) (b off n : Nat) (X : Nat → ByteArray) : Prop := ∀ i, i < n → w.cell? ⟨b, off + i, none⟩ = some (.string (X i))

theorem StrRow.drewN {w : World} {b off n : Nat} {X : Nat → ByteArray} (h : StrRow w b off n X) (k : Nat) : StrRow (w.drewN k) b off n X := h

/-- no text is too long -/
def Short (n : Nat) (X : Nat → ByteArray) : Prop := ∀ i, i < n → (X i).size ≤ 1048576

/-- where the search stands: all before i are below the target, none from j on is -/
def Split (k : Int) (n : Nat) (X : Nat → ByteArray) (x : ByteArray) (i j : Nat) : Prop := (∀ q, q < i → cmpL (keyOf k (X q)) (keyOf k x) < 0) ∧ ∀ q, j ≤ q → q < n → ¬ cmpL (keyOf k (X q)) (keyOf k x) < 0

set_option maxHeartbeats 2000000 in
theorem binarySearch_any (k : Int) (b off n c : Nat) (X : Nat → ByteArray) (x : ByteArray) (w : World) (hn : n ≤ 1048576) (hx : x.size ≤ 1048576) (hs : Short n X) (h : StrRow w b off n X) (hr : Rising n (fun i => keyOf k (X i))) :
    Calls Try.prog 38 #[.slice (some ⟨b, off, none⟩) n c, .string x, .func (.func 39) #[.int .u8 k] #[]] w fun e w' => (∃ r : Int, e = .returned (.tuple #[.int .i64 r, .bool (among n (fun i => keyOf k (X i)) (keyOf k x))])) ∧ ∃ d, w' = w.drewN d := by
  have HS : Hid (Short n X) := hs
  have HR : Hid (Rising n (fun i => keyOf k (X i))) := hr
  have HX : Hid (StrRow w b off n X) := h
  clear hs hr h
  go_enter Try.func38, Try.ntmps38
  go_wp2
  go_loopw [9, 10] (fun u v wr => ∃ i j : Nat, i ≤ j ∧ j ≤ n ∧ u = .int .i64 i ∧ v = .int .i64 j ∧ Hid (∃ d, wr = w.drewN d) ∧ Split k n X x i j)
    (fun u v _ => (intOf v).toNat - (intOf u).toNat)
  case atStart => exact ⟨0, n, Nat.zero_le _, Nat.le_refl _, rfl, rfl, ⟨0, rfl⟩, fun q hq => absurd hq (Nat.not_lt_zero _), fun q h1 h2 => by omega⟩
  case round =>
    obtain ⟨i, j, hij, hjn, rfl, rfl, hd, hinv⟩ := hrel
    by_cases hlt : i < j
    · have hm : (i + j) / 2 < n := by omega
      have e0 : wr.cell? ⟨b, off + (i + j) / 2, none⟩ = some (.string (X ((i + j) / 2))) := by
        obtain ⟨d, hd'⟩ := hd.out
        rw [hd']
        exact HX.out _ hm
      have hsz := HS.out _ hm
      go_wp2_with fail
      refine (compare_any k _ x _ hsz hx).mono ?_
      rintro e w1 ⟨rfl, hw1⟩
      have hd1 : Hid (∃ d, w1 = w.drewN d) := by
        obtain ⟨d, hd'⟩ := hd.out
        obtain ⟨d2, hd2⟩ := hw1
        exact ⟨d + d2, by rw [hd2, hd', World.drewN_drewN]⟩
      clear hw1 e0
      by_cases hc : cmpL (keyOf k (X ((i + j) / 2))) (keyOf k x) < 0
      · have hinv2 : Split k n X x ((i + j) / 2 + 1) j := by
          refine ⟨fun q hq => ?_, hinv.2⟩
          by_cases e : q = (i + j) / 2
          · rw [e]; exact hc
          · exact cmpL_trans (HR.out.lt (show q < (i + j) / 2 by omega) hm) hc
        clear hinv
        go_wp2_with fail
        go_roundw
        case rel => exact ⟨(i + j) / 2 + 1, j, by omega, by omega, by go_num, rfl, hd1, hinv2⟩
        case measure => simp [intOf]; omega
      · have hinv2 : Split k n X x i ((i + j) / 2) :=
          ⟨hinv.1, fun q h1 h2 => HR.out.stays (K := fun i => keyOf k (X i)) h1 h2 hc⟩
        clear hinv
        go_wp2_with fail
        go_roundw
        case rel => exact ⟨i, (i + j) / 2, by omega, by omega, rfl, by go_num, hd1, hinv2⟩
        case measure => simp [intOf]; omega
    · obtain rfl : i = j := by omega
      have hf : Hid (among n (fun i => keyOf k (X i)) (keyOf k x) = _) := search_found (K := fun i => keyOf k (X i)) HR.out hjn hinv.1 hinv.2
      clear hinv
      by_cases hin : i < n
      · have dn : decide ((i : Int) < (n : Int)) = true := by simp; omega
        have e0 : wr.cell? ⟨b, off + i, none⟩ = some (.string (X i)) := by
          obtain ⟨d, hd'⟩ := hd.out
          rw [hd']
          exact HX.out _ hin
        have hsz := HS.out _ hin
        have hf2 : Hid (among n (fun i => keyOf k (X i)) (keyOf k x) = (cmpL (keyOf k (X i)) (keyOf k x) == 0)) := by
          show among n (fun i => keyOf k (X i)) (keyOf k x) = _
          rw [hf.out, decide_eq_true hin, Bool.true_and]
          rfl
        clear hf
        go_wp2_with fail
        refine (compare_any k _ x _ hsz hx).mono ?_
        rintro e w1 ⟨rfl, hw1⟩
        have hd1 : Hid (∃ d, w1 = w.drewN d) := by
          obtain ⟨d, hd'⟩ := hd.out
          obtain ⟨d2, hd2⟩ := hw1
          exact ⟨d + d2, by rw [hd2, hd', World.drewN_drewN]⟩
        clear hw1 e0
        go_wp2_with fail
        go_ret2
        exact ⟨⟨i, by rw [hf2.out]; rfl⟩, hd1.out⟩
      · have dn : decide ((i : Int) < (n : Int)) = false := by simp; omega
        have hf2 : Hid (among n (fun i => keyOf k (X i)) (keyOf k x) = false) := by
          show among n (fun i => keyOf k (X i)) (keyOf k x) = _
          rw [hf.out, decide_eq_false hin, Bool.false_and]
        clear hf
        go_wp2_with fail
        go_ret2
        exact ⟨⟨i, by rw [hf2.out]; rfl⟩, hd.out⟩
end Go.Proofs.Qxb6614662a
