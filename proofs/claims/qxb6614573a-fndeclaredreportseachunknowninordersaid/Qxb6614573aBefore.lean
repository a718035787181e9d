import Derived.Test.Qxb6614573aNames
import Derived.Test.Qxb6614573aChk
import Derived.LaidEqlPtr
namespace Go.Proofs.Qxb6614573a
open Go.RowKit

/-- no name is too long -/
def Short (n : Nat) (X : Nat → ByteArray) : Prop := ∀ i, i < n → (X i).size ≤ 1048576
theorem Short.zero (X : Nat → ByteArray) : Short 0 X := fun _ h => absurd h (Nat.not_lt_zero _)
theorem Short.succ {j : Nat} {X : Nat → ByteArray} (h : Short j X) (hs : (X j).size ≤ 1048576) : Short (j + 1) X := fun i hi => by
  by_cases e : i = j
  · subst e; exact hs
  · exact h i (by omega)

def Fine (n : Nat) (X : Nat → ByteArray) (nm : ByteArray) : Prop := n ≤ 1048576 ∧ Short n X ∧ nm.size ≤ 1048576

set_option maxHeartbeats 1000000 in
theorem zzBytes23 (ao : Option Addr) (n c : Nat) (X : Nat → ByteArray) (nm : ByteArray) (l k : Int) (w : World) (h : NamesIn w ao n c X) (hnm : nm.size ≤ 9223372036854775807) :
    Calls Try.prog 23 #[.slice ao n c, .string nm, .int .i64 l, .int .i64 k] w fun e w' => w' = w ∧ (e = .returned (.bool false) ∨ (e = .returned (.bool true) ∧ Fine n X nm)) := by
  have hle := h.le
  have hmx := h.max
  by_cases hn : n ≤ 1048576
  · go_enter Try.func23, Try.ntmps23
    go_wp2
    go_loop [9, 10] (fun t i => ∃ (j : Nat) (z : Int), j ≤ n ∧ i = .int .i64 j ∧ t = .int .i64 z ∧ 0 ≤ z ∧ z ≤ 1048576 ∧ Short j X) (fun _ i => n - (intOf i).toNat)
    case atStart => exact ⟨0, n, Nat.zero_le _, rfl, rfl, by omega, by omega, Short.zero X⟩
    case round =>
      obtain ⟨j, z, hj, rfl, rfl, hz0, hz1, hq⟩ := hrel
      by_cases hlt : j < n
      · rcases h.row with h0 | ⟨b, off, hao, hr⟩
        · omega
        · subst hao
          have e0 := hr j hlt
          have hs := h.size j hlt
          clear hr h
          go_wp2
          · go_ret
            exact ⟨rfl, .inl rfl⟩
          · go_ret
            exact ⟨rfl, .inl rfl⟩
          · have hs2 : ((X j).size : Int) ≤ 1048576 := by assumption
            go_round
            case rel => exact ⟨j + 1, _, by omega, by go_num, rfl, by omega, by assumption, hq.succ (by omega)⟩
            case measure => simp [intOf]; omega
      · obtain rfl : j = n := by omega
        clear h
        go_wp2
        · go_ret
          exact ⟨rfl, .inl rfl⟩
        · go_ret
          exact ⟨rfl, .inl rfl⟩
        · have hs2 : (nm.size : Int) ≤ 1048576 := by assumption
          go_ret
          exact ⟨rfl, .inr ⟨rfl, hn, hq, by omega⟩⟩
  · clear h
    go_enter Try.func23, Try.ntmps23
    go_wp2
    go_ret
    exact ⟨rfl, .inl rfl⟩

/-- the declared names after m of them: F knows just those -/
def Knows (m : Nat) (X : Nat → ByteArray) (F : ByteArray → Option Nat) : Prop := ∀ s, (∃ b, F s = some b) ↔ ∃ i, i < m ∧ X i = s
theorem Knows.zero (X : Nat → ByteArray) : Knows 0 X (fun _ => none) := fun s => ⟨fun ⟨_, h⟩ => (by cases h), fun ⟨i, h, _⟩ => absurd h (Nat.not_lt_zero _)⟩
theorem Knows.succ {m b : Nat} {X : Nat → ByteArray} {F : ByteArray → Option Nat} (h : Knows m X F) : Knows (m + 1) X (fun t => if t = X m then some b else F t) := by
  intro s
  show (∃ b', (if s = X m then some b else F s) = some b') ↔ _
  by_cases e : s = X m
  · subst e
    rw [if_pos rfl]
    exact ⟨fun _ => ⟨m, by omega, rfl⟩, fun _ => ⟨b, rfl⟩⟩
  · rw [if_neg e, h s]
    constructor
    · rintro ⟨i, hi, q⟩
      exact ⟨i, by omega, q⟩
    · rintro ⟨i, hi, q⟩
      refine ⟨i, ?_, q⟩
      by_cases e2 : i = m
      · subst e2
        exact absurd q.symm e
      · omega
theorem Knows.yes {m : Nat} {X : Nat → ByteArray} {F : ByteArray → Option Nat} (h : Knows m X F) {s : ByteArray} (hs : hasName m X s = true) : ∃ b, F s = some b := (h s).2 ((hasName_iff m X s).1 hs)
theorem Knows.no {m : Nat} {X : Nat → ByteArray} {F : ByteArray → Option Nat} (h : Knows m X F) {s : ByteArray} (hs : hasName m X s = false) : F s = none := by
  cases e : F s with
  | none => rfl
  | some b =>
    have := (hasName_iff m X s).2 ((h s).1 ⟨b, e⟩)
    rw [hs] at this
    cases this

theorem Try.info66 : (Try.prog.info? 66).map (fun i => i.size) = some 9 := by kernel_rfl
theorem neq_same (a : Addr) (w : World) : (binOp .neq 38 (.pointer (some a)) (.pointer (some a))).run Try.prog w = .ok (.bool false) w := by
  obtain ⟨j, hj, _⟩ := Option.map_eq_some_iff.1 Try.info66
  have h : ∀ d : Nat, (Op.equalIn (d + 1) 38 (.pointer (some a)) (.pointer (some a))).run Try.prog w = .ok true w := fun d => by
    simp [Op.equalIn, run_underlying Try.underlying38, sizeOf, typeInfo, hj, run_sameAddr_same]
  simp only [binOp]
  simp [Op.equal, Op.maxDepth, h 9999]

theorem pos0 {w : World} {p : Nat} {l k : Int} (h : w.heap[p]? = some (.cells #[.int .i64 l, .int .i64 k] 43 (0, 0))) : w.cell? ⟨p, 0, none⟩ = some (.int .i64 l) := by rw [cell_of_row _ _ 0 _ _ _ h]; rfl
theorem pos1 {w : World} {p : Nat} {l k : Int} (h : w.heap[p]? = some (.cells #[.int .i64 l, .int .i64 k] 43 (0, 0))) : w.cell? ⟨p, 1, none⟩ = some (.int .i64 k) := by rw [cell_of_row _ _ 1 _ _ _ h]; rfl

set_option maxHeartbeats 4000000 in
/-- THE LAW's WALK: every input -/
theorem before_walk (ao : Option Addr) (n c : Nat) (X : Nat → ByteArray) (nm : ByteArray) (l k : Int) (w : World) (h : NamesIn w ao n c X) (hnm : nm.size ≤ 9223372036854775807) :
    Calls Try.prog 6 #[.slice ao n c, .string nm, .int .i64 l, .int .i64 k] w fun e w' => e = .returned (.bool true) ∧ Below w.heap.size w w' := by
  go_enter Try.func6, Try.ntmps6
  go_wp2_with fail
  refine (zzBytes23 ao n c X nm l k _ h hnm).mono ?_
  rintro e w1 ⟨hw, rfl | ⟨rfl, hfine⟩⟩
  · subst hw
    clear h
    go_wp2_with fail
    go_ret
    exact ⟨rfl, Below.refl _ _⟩
  · subst hw
    obtain ⟨hn, hsh, hnm2⟩ := hfine
    by_cases h4 : n ≤ 4096
    · have d1 : decide ((4096 : Int) < (n : Int)) = false := by simp; omega
      have d2 : decide ((1048576 : Int) < (nm.size : Int)) = false := by simp; omega
      go_wp2_with fail
      go_loop [9, 10] (fun t i => ∃ (j : Nat) (z : Int), j ≤ n ∧ i = .int .i64 j ∧ t = .int .i64 z ∧ 0 ≤ z ∧ z ≤ 1048576) (fun _ i => n - (intOf i).toNat)
      case atStart => exact ⟨0, nm.size, Nat.zero_le _, rfl, rfl, by omega, by omega⟩
      case round =>
        obtain ⟨j, z, hj, rfl, rfl, hz0, hz1⟩ := hrel
        by_cases hlt : j < n
        · rcases h.row with h0 | ⟨b, off, hao, hr⟩
          · omega
          · subst hao
            have e0 := hr j hlt
            have hs := hsh j hlt
            clear hr h hsh
            go_wp2
            · go_ret
              exact ⟨rfl, Below.refl _ _⟩
            · go_round
              case rel => exact ⟨j + 1, _, by omega, by go_num, rfl, by omega, by assumption⟩
              case measure => simp [intOf]; omega
        · go_wp2_with fail
          refine (newChecker_any w1.heap.size _ (Nat.le_refl _)).mono ?_
          rintro e w2 ⟨rfl, hb2, hch2⟩
          go_wp2_with fail
          go_loopw [12] (fun i wr => ∃ (m : Nat) (F : ByteArray → Option Nat), m ≤ n ∧ i = .int .i64 m ∧ Below w1.heap.size w1 wr ∧ Knows m X F ∧ Chk w1.heap.size wr (w1.heap.size + 3) w1.heap.size F (.slice none 0 0) []) (fun i _ => n - (intOf i).toNat)
          case atStart => exact ⟨0, _, Nat.zero_le _, rfl, hb2, Knows.zero X, hch2⟩
          case round =>
            obtain ⟨m, F, hm, rfl, hb, hkn, hch⟩ := hrel
            clear hb2 hch2
            by_cases hlt2 : m < n
            · rcases h.row with h0 | ⟨b, off, hao, hr⟩
              · omega
              · subst hao
                have e0 := (hb.cell (World.block_lt_of_cell? _ _ (hr m hlt2))).trans (hr m hlt2)
                clear hr h
                go_wp2_with fail
                refine (newStruct_any (X m) _).mono ?_
                rintro e w3 ⟨rfl, hw3⟩
                subst hw3
                have hb3 : Below wr.heap.size wr (wr.alloc (.cells (typCells (X m)) 66)) := (Below.refl _ _).alloc (Nat.le_refl _) _
                go_wp2_with fail
                refine (declare_any w1.heap.size _ _ _ wr.heap.size F _ [] (X m) (hch.below hb3) (heap_alloc_new wr _)).mono ?_
                rintro e w4 ⟨rfl, hb4, _, hch4⟩
                have hb5 : Below w1.heap.size w1 w4 := (hb.trans (hb3.mono hb.size)).trans hb4
                have hkn4 : Knows (m + 1) X (fun t => if t = X m then some wr.heap.size else F t) := hkn.succ
                clear hb3 hb4 hch hb hkn e0
                go_wp2_with fail
                go_roundw
                case rel => exact ⟨m + 1, _, by omega, by go_num, hb5, hkn4, hch4⟩
                case measure => simp [intOf]; omega
            · obtain rfl : m = n := by omega
              go_wp2_with fail
              have hN := h.below hb
              have hbp : Below wr.heap.size wr (wr.alloc (.cells #[.int .i64 l, .int .i64 k] 43)) := (Below.refl _ _).alloc (Nat.le_refl _) _
              refine (contains_any ao m c X nm _ (by omega) (hN.below hbp)).mono ?_
              rintro e w5 ⟨rfl, hw5⟩
              have hp5 : w5.heap[wr.heap.size]? = some (.cells #[.int .i64 l, .int .i64 k] 43 (0, 0)) := by rw [hw5]; exact heap_alloc_new wr _
              have hb5 : Below w1.heap.size w1 w5 := by rw [hw5]; exact hb.alloc hb.size _
              have hch5 := hch.below hbp
              rw [← hw5] at hch5
              clear hw5 hbp hch hb hN h
              cases hk : hasName m X nm with
              | true =>
                obtain ⟨bt, hF⟩ := hkn.yes hk
                have p0 := pos0 hp5
                have p1 := pos1 hp5
                clear hkn
                go_wp2_with fail
                refine (zzDeclared_hit w1.heap.size _ _ _ bt F _ [] nm l k hch5 hF).mono ?_
                rintro e w6 ⟨rfl, hb6⟩
                have hch6 := hch5.below hb6
                have hp6 := keeps_of_below hb6 _ _ _ hp5 (by decide) (by decide)
                have hbb6 : Below w1.heap.size w1 w6 := hb5.trans (hb6.mono hb5.size)
                clear p0 p1 hch5 hp5 hb5 hb6
                go_wp2_with fail
                refine (typName_any _ bt nm (hch6.typ nm bt hF)).mono ?_
                rintro e w7 ⟨rfl, hw7⟩
                subst hw7
                go_wp2_with fail
                refine (typKind_any _ bt nm (hch6.typ nm bt hF)).mono ?_
                rintro e w8 ⟨rfl, hw8⟩
                subst hw8
                go_wp2_with fail
                refine (diagCount_any w1.heap.size _ _ _ F _ [] hch6).mono ?_
                rintro e w9 ⟨rfl, hw9⟩
                subst hw9
                go_wp2_with fail
                refine (newStruct_any nm _).mono ?_
                rintro e w10 ⟨rfl, hw10⟩
                have hbt : Below w9.heap.size w9 w10 := by rw [hw10]; exact (Below.refl _ _).alloc (Nat.le_refl _) _
                have ht10 : w10.heap[w9.heap.size]? = some (.cells (typCells nm) 66 (0, 0)) := by rw [hw10]; exact heap_alloc_new w9 _
                have hch10 := hch6.below hbt
                have hp10 := keeps_of_below hbt _ _ _ hp6 (by decide) (by decide)
                have hbb10 : Below w1.heap.size w1 w10 := hbb6.trans (hbt.mono hbb6.size)
                clear hw10 hbt hch6 hp6 hbb6 hF
                go_wp2_with fail
                refine (declare_any w1.heap.size _ _ _ w9.heap.size F _ [] nm hch10 ht10).mono ?_
                rintro e w11 ⟨rfl, hb11, hk11, hch11⟩
                have hp11 := hk11 _ _ _ hp10 (by decide) (by decide)
                have hbb11 := hbb10.trans hb11
                have p0 := pos0 hp11
                have p1 := pos1 hp11
                clear hch10 hp10 hbb10 hb11 hk11 ht10
                go_wp2_with fail
                refine (zzDeclared_hit w1.heap.size _ _ _ w9.heap.size _ _ [] nm l k hch11 (if_pos rfl)).mono ?_
                rintro e w12 ⟨rfl, hb12⟩
                have hch12 := hch11.below hb12
                have hp12 := keeps_of_below hb12 _ _ _ hp11 (by decide) (by decide)
                have hbb12 : Below w1.heap.size w1 w12 := hbb11.trans (hb12.mono hbb11.size)
                clear p0 p1 hch11 hp11 hbb11 hb12
                have p0 := pos0 hp12
                have p1 := pos1 hp12
                go_wp2_with fail
                refine (zzDeclared_hit w1.heap.size _ _ _ w9.heap.size _ _ [] nm l k hch12 (if_pos rfl)).mono ?_
                rintro e w13 ⟨rfl, hb13⟩
                have hch13 := hch12.below hb13
                have hbb13 : Below w1.heap.size w1 w13 := hbb12.trans (hb13.mono hbb12.size)
                clear p0 p1 hch12 hp12 hbb12 hb13
                have hnq := neq_same ⟨w9.heap.size, 0, none⟩
                go_wp2_with fail
                refine (diagCount_any w1.heap.size _ _ _ _ _ [] hch13).mono ?_
                rintro e w14 ⟨rfl, hw14⟩
                subst hw14
                go_wp2_with fail
                go_ret
                exact ⟨rfl, hbb13⟩
              | false =>
                have hF := hkn.no hk
                have p0 := pos0 hp5
                have p1 := pos1 hp5
                clear hkn
                go_wp2_with fail
                refine (zzDeclared_miss w1.heap.size _ _ _ F _ [] nm l k hch5 hb5.size (by simp) hF).mono ?_
                rintro e w6 ⟨rfl, hb6, hk6, v6, a6, hch6⟩
                have hp6 := hk6 _ _ _ hp5 (by decide) (by decide)
                have hbb6 := hb5.trans hb6
                clear p0 p1 hch5 hp5 hb5 hb6 hk6
                go_wp2_with fail
                refine (diagCount_any w1.heap.size _ _ _ F _ _ hch6).mono ?_
                rintro e w9 ⟨rfl, hw9⟩
                subst hw9
                go_wp2_with fail
                refine (newStruct_any nm _).mono ?_
                rintro e w10 ⟨rfl, hw10⟩
                have hbt : Below w9.heap.size w9 w10 := by rw [hw10]; exact (Below.refl _ _).alloc (Nat.le_refl _) _
                have ht10 : w10.heap[w9.heap.size]? = some (.cells (typCells nm) 66 (0, 0)) := by rw [hw10]; exact heap_alloc_new w9 _
                have hch10 := hch6.below hbt
                have hp10 := keeps_of_below hbt _ _ _ hp6 (by decide) (by decide)
                have hbb10 : Below w1.heap.size w1 w10 := hbb6.trans (hbt.mono hbb6.size)
                clear hw10 hbt hch6 hp6 hbb6 hF
                go_wp2_with fail
                refine (declare_any w1.heap.size _ _ _ w9.heap.size F _ _ nm hch10 ht10).mono ?_
                rintro e w11 ⟨rfl, hb11, hk11, hch11⟩
                have hp11 := hk11 _ _ _ hp10 (by decide) (by decide)
                have hbb11 := hbb10.trans hb11
                have p0 := pos0 hp11
                have p1 := pos1 hp11
                clear hch10 hp10 hbb10 hb11 hk11 ht10
                go_wp2_with fail
                refine (zzDeclared_hit w1.heap.size _ _ _ w9.heap.size _ _ _ nm l k hch11 (if_pos rfl)).mono ?_
                rintro e w12 ⟨rfl, hb12⟩
                have hch12 := hch11.below hb12
                have hp12 := keeps_of_below hb12 _ _ _ hp11 (by decide) (by decide)
                have hbb12 : Below w1.heap.size w1 w12 := hbb11.trans (hb12.mono hbb11.size)
                clear p0 p1 hch11 hp11 hbb11 hb12
                have p0 := pos0 hp12
                have p1 := pos1 hp12
                go_wp2_with fail
                refine (zzDeclared_hit w1.heap.size _ _ _ w9.heap.size _ _ _ nm l k hch12 (if_pos rfl)).mono ?_
                rintro e w13 ⟨rfl, hb13⟩
                have hch13 := hch12.below hb13
                have hp13 := keeps_of_below hb13 _ _ _ hp12 (by decide) (by decide)
                have hbb13 : Below w1.heap.size w1 w13 := hbb12.trans (hb13.mono hbb12.size)
                clear p0 p1 hch12 hp12 hbb12 hb13
                have hnq := neq_same ⟨w9.heap.size, 0, none⟩
                go_wp2_with fail
                refine (diagCount_any w1.heap.size _ _ _ _ _ _ hch13).mono ?_
                rintro e w14 ⟨rfl, hw14⟩
                subst hw14
                clear hnq
                go_wp2_with fail
                refine (diagAt_any w1.heap.size _ _ _ _ _ _ 0 ⟨l, k, nm, a6⟩ hch13 rfl).mono ?_
                rintro e w15 ⟨rfl, hb15⟩
                have hp15 := keeps_of_below hb15 _ _ _ hp13 (by decide) (by decide)
                have ha15 := (hch13.below hb15).args ⟨l, k, nm, a6⟩ (by simp)
                have hbb15 : Below w1.heap.size w1 w15 := hbb13.trans (hb15.mono hbb13.size)
                clear hch13 hp13 hbb13 hb15
                have lp := heap_lt hp15
                have q0 : ∀ o, (w15.alloc o).cell? ⟨wr.heap.size, 0, none⟩ = some (.int .i64 l) := fun o => (World.cell?_of_block (w := w15) (Below.heap_alloc w15 o _ lp)).trans (pos0 hp15)
                have q1 : ∀ o, (w15.alloc o).cell? ⟨wr.heap.size, 1, none⟩ = some (.int .i64 k) := fun o => (World.cell?_of_block (w := w15) (Below.heap_alloc w15 o _ lp)).trans (pos1 hp15)
                clear hp15 lp
                go_wp2_with fail
                have hbd : Below w15.heap.size w15 (w15.alloc (.cells #[.int .i64 l, .int .i64 k, .int .i64 0, .string fmtText, .slice (some ⟨a6, 0, none⟩) 1 1] 50)) := (Below.refl _ _).alloc (Nat.le_refl _) _
                have hd16 := heap_alloc_new w15 (.cells #[.int .i64 l, .int .i64 k, .int .i64 0, .string fmtText, .slice (some ⟨a6, 0, none⟩) 1 1] 50)
                have ha16 := (hbd.block _ (heap_lt ha15)).trans ha15
                have hbb16 : Below w1.heap.size w1 (w15.alloc (.cells #[.int .i64 l, .int .i64 k, .int .i64 0, .string fmtText, .slice (some ⟨a6, 0, none⟩) 1 1] 50)) := hbb15.trans (hbd.mono hbb15.size)
                clear q0 q1 hbd ha15 hbb15
                refine (diagArgCount_any _ l k a6).mono ?_
                rintro e w17 ⟨rfl, hb17⟩
                have hd17 := (hb17.block _ (heap_lt hd16)).trans hd16
                have ha17 := (hb17.block _ (heap_lt ha16)).trans ha16
                have hbb17 : Below w1.heap.size w1 w17 := hbb16.trans (hb17.mono hbb16.size)
                clear hd16 ha16 hbb16 hb17
                have g0 : w17.cell? ⟨w15.heap.size, 0, none⟩ = some (.int .i64 l) := by rw [cell_of_row _ _ 0 _ _ _ hd17]; rfl
                have g1 : w17.cell? ⟨w15.heap.size, 1, none⟩ = some (.int .i64 k) := by rw [cell_of_row _ _ 1 _ _ _ hd17]; rfl
                have g2 : w17.cell? ⟨w15.heap.size, 2, none⟩ = some (.int .i64 0) := by rw [cell_of_row _ _ 2 _ _ _ hd17]; rfl
                have g3 : w17.cell? ⟨w15.heap.size, 3, none⟩ = some (.string fmtText) := by rw [cell_of_row _ _ 3 _ _ _ hd17]; rfl
                have g4 : w17.cell? ⟨w15.heap.size, 4, none⟩ = some (.slice (some ⟨a6, 0, none⟩) 1 1) := by rw [cell_of_row _ _ 4 _ _ _ hd17]; rfl
                clear hd17
                go_wp2_with fail
                refine (diagArgString_any _ l k a6 nm ha17).mono ?_
                rintro e w18 ⟨rfl, hb18⟩
                have hbb18 : Below w1.heap.size w1 w18 := hbb17.trans (hb18.mono hbb17.size)
                clear g0 g1 g2 g3 g4 ha17 hbb17 hb18
                go_wp2_with fail
                go_ret
                exact ⟨rfl, hbb18⟩
    · clear h
      go_wp2_with fail
      go_ret
      exact ⟨rfl, Below.refl _ _⟩
end Go.Proofs.Qxb6614573a
