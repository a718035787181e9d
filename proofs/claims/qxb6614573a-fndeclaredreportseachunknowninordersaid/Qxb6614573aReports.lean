import Derived.Test.Qxb6614573aBefore
import Derived.Deep.RegionHeld3
namespace Go.Proofs.Qxb6614573a
open Go.RowKit

/-! ### the plain law -/

/-- which of the first k queries are unknown, in order -/
def unk (p : Nat → Bool) : Nat → List Nat
  | 0 => []
  | k + 1 => if p k then unk p k else unk p k ++ [k]

theorem unk_le (p : Nat → Bool) (k : Nat) : (unk p k).length ≤ k := by
  induction k with
  | zero => exact Nat.le_refl _
  | succ k ih =>
    simp only [unk]
    split
    · omega
    · simp; omega
theorem unk_known {p : Nat → Bool} {k : Nat} (h : p k = true) : unk p (k + 1) = unk p k := by simp [unk, h]
theorem unk_unknown {p : Nat → Bool} {k : Nat} (h : p k = false) : unk p (k + 1) = unk p k ++ [k] := by simp [unk, h]

theorem unk_prefix (p : Nat → Bool) (i n : Nat) (h : i ≤ n) : ∃ l, unk p n = unk p i ++ l := by
  induction n with
  | zero =>
    obtain rfl : i = 0 := by omega
    exact ⟨[], by simp⟩
  | succ n ih =>
    by_cases e : i = n + 1
    · subst e
      exact ⟨[], by simp⟩
    · obtain ⟨l, hl⟩ := ih (by omega)
      cases hp : p n
      · exact ⟨l ++ [n], by rw [unk_unknown hp, hl, List.append_assoc]⟩
      · exact ⟨l, by rw [unk_known hp, hl]⟩

theorem unk_at (p : Nat → Bool) (i n : Nat) (hi : i < n) (h : p i = false) : (unk p n)[(unk p i).length]? = some i := by
  obtain ⟨l, hl⟩ := unk_prefix p (i + 1) n (by omega)
  rw [hl, unk_unknown h, List.append_assoc, List.getElem?_append_right (Nat.le_refl _)]
  simp

/-- what the diagnostics say -/
def pubs (p : Nat → Bool) (Q : Nat → ByteArray) (L C : Nat → Int) (k : Nat) : List (Int × Int × ByteArray) := (unk p k).map fun j => (L j, C j, Q j)

theorem pubs_known {p : Nat → Bool} {Q : Nat → ByteArray} {L C : Nat → Int} {k : Nat} (h : p k = true) : pubs p Q L C (k + 1) = pubs p Q L C k := by simp [pubs, unk_known h]
theorem pubs_unknown {p : Nat → Bool} {Q : Nat → ByteArray} {L C : Nat → Int} {k : Nat} (h : p k = false) : pubs p Q L C (k + 1) = pubs p Q L C k ++ [(L k, C k, Q k)] := by simp [pubs, unk_unknown h]

theorem diag_of {ds : List DG} {p : Nat → Bool} {Q : Nat → ByteArray} {L C : Nat → Int} {n i : Nat} (h : ds.map DG.pub = pubs p Q L C n) (hi : i < n) (hp : p i = false) :
    ∃ a, ds[(unk p i).length]? = some ⟨L i, C i, Q i, a⟩ := by
  have h1 : (ds.map DG.pub)[(unk p i).length]? = some (L i, C i, Q i) := by rw [h, pubs, List.getElem?_map, unk_at p i n hi hp]; rfl
  rw [List.getElem?_map] at h1
  obtain ⟨d, hd, he⟩ := Option.map_eq_some_iff.1 h1
  obtain ⟨l, c, s, a⟩ := d
  simp only [DG.pub, Prod.mk.injEq] at he
  obtain ⟨rfl, rfl, rfl⟩ := he
  exact ⟨a, hd⟩

theorem ds_le {ds : List DG} {p : Nat → Bool} {Q : Nat → ByteArray} {L C : Nat → Int} {n : Nat} (h : ds.map DG.pub = pubs p Q L C n) : ds.length ≤ n := by
  have h1 := congrArg List.length h
  simp only [List.length_map, pubs] at h1
  have := unk_le p n
  omega

theorem below_draws {B : Nat} (w : World) (k : Nat) : Below B w (w.drewN k) := ⟨rfl, rfl, rfl, Nat.le_refl _, fun _ _ => rfl⟩

/-! ### the queries -/

def QRow (w : World) (b off n : Nat) (Q : Nat → ByteArray) (L C : Nat → Int) : Prop :=
  ∀ i, i < n → w.cell? ⟨b, off + i * 3, none⟩ = some (.string (Q i)) ∧ w.cell? ⟨b, off + i * 3 + 1, none⟩ = some (.int .i64 (L i)) ∧ w.cell? ⟨b, off + i * 3 + 2, none⟩ = some (.int .i64 (C i))

/-- WHAT A WALK IS TOLD OF A []TypeQuery THAT CAME IN. -/
structure QsIn (w : World) (ao : Option Addr) (n c : Nat) (Q : Nat → ByteArray) (L C : Nat → Int) : Prop where
  le : n ≤ c
  max : c ≤ 9223372036854775807
  row : n = 0 ∨ ∃ b off, ao = some ⟨b, off, none⟩ ∧ QRow w b off n Q L C
  size : ∀ i, i < n → (Q i).size ≤ 9223372036854775807

def Fine2 (n : Nat) (X : Nat → ByteArray) (m : Nat) (Q : Nat → ByteArray) : Prop := n ≤ 1048576 ∧ Short n X ∧ m ≤ 1048576 ∧ Short m Q

set_option maxHeartbeats 2000000 in
theorem zzBytes11 (ao aq : Option Addr) (n c m cq : Nat) (X Q : Nat → ByteArray) (L C : Nat → Int) (w : World) (h : NamesIn w ao n c X) (hq : QsIn w aq m cq Q L C) :
    Calls Try.prog 11 #[.slice ao n c, .slice aq m cq] w fun e w' => w' = w ∧ (e = .returned (.bool false) ∨ (e = .returned (.bool true) ∧ Fine2 n X m Q)) := by
  have hle := h.le
  have hmx := h.max
  have hle2 := hq.le
  have hmx2 := hq.max
  by_cases hn : n ≤ 1048576
  · go_enter Try.func11, Try.ntmps11
    go_wp2
    go_loop [5, 6] (fun t i => ∃ (j : Nat) (z : Int), j ≤ n ∧ i = .int .i64 j ∧ t = .int .i64 z ∧ 0 ≤ z ∧ z ≤ 1048576 ∧ Short j X) (fun _ i => n - (intOf i).toNat)
    case atStart => exact ⟨0, n, Nat.zero_le _, rfl, rfl, by omega, by omega, Short.zero X⟩
    case round =>
      obtain ⟨j, z, hj, rfl, rfl, hz0, hz1, hs0⟩ := hrel
      by_cases hlt : j < n
      · rcases h.row with h0 | ⟨b, off, hao, hr⟩
        · omega
        · subst hao
          have e0 := hr j hlt
          have hs := h.size j hlt
          clear hr h hq
          go_wp2
          · go_ret
            exact ⟨rfl, .inl rfl⟩
          · go_ret
            exact ⟨rfl, .inl rfl⟩
          · have hs2 : ((X j).size : Int) ≤ 1048576 := by assumption
            go_round
            case rel => exact ⟨j + 1, _, by omega, by go_num, rfl, by omega, by assumption, hs0.succ (by omega)⟩
            case measure => simp [intOf]; omega
      · obtain rfl : j = n := by omega
        clear h
        by_cases hm : m ≤ 1048576
        · by_cases hzm : z + m ≤ 1048576
          · go_wp2
            go_loop [5, 7] (fun t i => ∃ (k : Nat) (y : Int), k ≤ m ∧ i = .int .i64 k ∧ t = .int .i64 y ∧ 0 ≤ y ∧ y ≤ 1048576 ∧ Short k Q) (fun _ i => m - (intOf i).toNat)
            case atStart => exact ⟨0, _, Nat.zero_le _, rfl, rfl, by omega, by omega, Short.zero Q⟩
            case round =>
              obtain ⟨k, y, hk, rfl, rfl, hy0, hy1, hs1⟩ := hrel
              by_cases hlt2 : k < m
              · rcases hq.row with h0 | ⟨b, off, hao, hr⟩
                · omega
                · subst hao
                  have e0 := (hr k hlt2).1
                  have hs := hq.size k hlt2
                  clear hr hq
                  go_wp2
                  · go_ret
                    exact ⟨rfl, .inl rfl⟩
                  · go_ret
                    exact ⟨rfl, .inl rfl⟩
                  · have hs2 : ((Q k).size : Int) ≤ 1048576 := by assumption
                    go_round
                    case rel => exact ⟨k + 1, _, by omega, by go_num, rfl, by omega, by assumption, hs1.succ (by omega)⟩
                    case measure => simp [intOf]; omega
              · obtain rfl : k = m := by omega
                clear hq
                go_wp2
                go_ret
                exact ⟨rfl, .inr ⟨rfl, hn, hs0, hm, hs1⟩⟩
          · clear hq
            go_wp2
            go_ret
            exact ⟨rfl, .inl rfl⟩
        · clear hq
          go_wp2
          go_ret
          exact ⟨rfl, .inl rfl⟩
  · clear h hq
    go_enter Try.func11, Try.ntmps11
    go_wp2
    go_ret
    exact ⟨rfl, .inl rfl⟩

theorem QRow.below {w w' : World} {b off n : Nat} {Q : Nat → ByteArray} {L C : Nat → Int} (h : QRow w b off n Q L C) (hb : Below w.heap.size w w') : QRow w' b off n Q L C := by
  intro i hi
  obtain ⟨c0, c1, c2⟩ := h i hi
  have hbw : b < w.heap.size := World.block_lt_of_cell? _ _ c0
  exact ⟨(hb.cell hbw).trans c0, (hb.cell hbw).trans c1, (hb.cell hbw).trans c2⟩

/-- one query's cells, and where they lie -/
theorem QsIn.cellsAt {w : World} {ao : Option Addr} {n c : Nat} {Q : Nat → ByteArray} {L C : Nat → Int} (h : QsIn w ao n c Q L C) {i : Nat} (hi : i < n) :
    ∃ b off, ao = some ⟨b, off, none⟩ ∧ b < w.heap.size ∧ ∀ w', Below w.heap.size w w' → w'.cell? ⟨b, off + i * 3, none⟩ = some (.string (Q i)) ∧ w'.cell? ⟨b, off + i * 3 + 1, none⟩ = some (.int .i64 (L i)) ∧ w'.cell? ⟨b, off + i * 3 + 2, none⟩ = some (.int .i64 (C i)) := by
  rcases h.row with h0 | ⟨b, off, e, hr⟩
  · omega
  · exact ⟨b, off, e, World.block_lt_of_cell? _ _ (hr i hi).1, fun w' hb => hr.below hb i hi⟩

set_option maxRecDepth 100000 in
set_option maxHeartbeats 4000000 in
/-- THE LAW's WALK: every input -/
theorem reports_walk (ao aq : Option Addr) (n c m cq : Nat) (X Q : Nat → ByteArray) (L C : Nat → Int) (w : World) (h : NamesIn w ao n c X) (hq : QsIn w aq m cq Q L C) :
    Calls Try.prog 5 #[.slice ao n c, .slice aq m cq] w fun e w' => e = .returned (.bool true) ∧ Below w.heap.size w w' := by
  go_enter Try.func5, Try.ntmps5
  go_wp2_with fail
  refine (zzBytes11 ao aq n c m cq X Q L C _ h hq).mono ?_
  rintro e w1 ⟨hw, rfl | ⟨rfl, hfine⟩⟩
  · subst hw
    clear h hq
    go_wp2_with fail
    go_ret
    exact ⟨rfl, Below.refl _ _⟩
  · subst hw
    obtain ⟨hn, hsh, hm, hsq⟩ := hfine
    by_cases h4 : n ≤ 4096
    · have d1 : decide ((4096 : Int) < (n : Int)) = false := by simp; omega
      by_cases h5 : m ≤ 4096
      · have d2 : decide ((4096 : Int) < (m : Int)) = false := by simp; omega
        go_wp2_with fail
        go_loop [5, 6] (fun t i => ∃ (j : Nat) (z : Int), j ≤ n ∧ i = .int .i64 j ∧ t = .int .i64 z ∧ 0 ≤ z ∧ z ≤ 1048576) (fun _ i => n - (intOf i).toNat)
        case atStart => exact ⟨0, 0, Nat.zero_le _, rfl, rfl, by omega, by omega⟩
        case round =>
          obtain ⟨j, z, hj, rfl, rfl, hz0, hz1⟩ := hrel
          by_cases hlt : j < n
          · rcases h.row with h0 | ⟨b, off, hao, hr⟩
            · omega
            · subst hao
              have e0 := hr j hlt
              have hs := hsh j hlt
              clear hr h hsh hq
              go_wp2
              · go_ret
                exact ⟨rfl, Below.refl _ _⟩
              · go_round
                case rel => exact ⟨j + 1, _, by omega, by go_num, rfl, by omega, by assumption⟩
                case measure => simp [intOf]; omega
          · go_wp2_with fail
            go_loop [5, 7] (fun t i => ∃ (k : Nat) (y : Int), k ≤ m ∧ i = .int .i64 k ∧ t = .int .i64 y ∧ 0 ≤ y ∧ y ≤ 1048576) (fun _ i => m - (intOf i).toNat)
            case atStart => exact ⟨0, _, Nat.zero_le _, rfl, rfl, by omega, by omega⟩
            case round =>
              obtain ⟨k, y, hk, rfl, rfl, hy0, hy1⟩ := hrel
              by_cases hlt2 : k < m
              · obtain ⟨b, off, hao, _, hr⟩ := hq.cellsAt hlt2
                subst hao
                have e0 := (hr _ (Below.refl _ _)).1
                have hs := hsq k hlt2
                clear hr h hsq hsh hq
                go_wp2
                · go_ret
                  exact ⟨rfl, Below.refl _ _⟩
                · go_round
                  case rel => exact ⟨k + 1, _, by omega, by go_num, rfl, by omega, by assumption⟩
                  case measure => simp [intOf]; omega
              · go_wp2_with fail
                refine (newChecker_any w1.heap.size _ (Nat.le_refl _)).mono ?_
                rintro e w2 ⟨rfl, hb2, hch2⟩
                go_wp2_with fail
                go_loopw [9] (fun i wr => ∃ (q : Nat) (F : ByteArray → Option Nat), q ≤ n ∧ i = .int .i64 q ∧ Below w1.heap.size w1 wr ∧ Knows q X F ∧ Chk w1.heap.size wr (w1.heap.size + 3) w1.heap.size F (.slice none 0 0) []) (fun i _ => n - (intOf i).toNat)
                case atStart => exact ⟨0, _, Nat.zero_le _, rfl, hb2, Knows.zero X, hch2⟩
                case round =>
                  obtain ⟨q, F, hqn, rfl, hb, hkn, hch⟩ := hrel
                  clear hb2 hch2
                  by_cases hlt3 : q < n
                  · rcases h.row with h0 | ⟨b, off, hao, hr⟩
                    · omega
                    · subst hao
                      have e0 := (hb.cell (World.block_lt_of_cell? _ _ (hr q hlt3))).trans (hr q hlt3)
                      clear hr h hq
                      go_wp2_with fail
                      refine (newStruct_any (X q) _).mono ?_
                      rintro e w3 ⟨rfl, hw3⟩
                      subst hw3
                      have hb3 : Below wr.heap.size wr (wr.alloc (.cells (typCells (X q)) 66)) := (Below.refl _ _).alloc (Nat.le_refl _) _
                      go_wp2_with fail
                      refine (declare_any w1.heap.size _ _ _ wr.heap.size F _ [] (X q) (hch.below hb3) (heap_alloc_new wr _)).mono ?_
                      rintro e w4 ⟨rfl, hb4, _, hch4⟩
                      have hb5 : Below w1.heap.size w1 w4 := (hb.trans (hb3.mono hb.size)).trans hb4
                      have hkn4 : Knows (q + 1) X (fun t => if t = X q then some wr.heap.size else F t) := hkn.succ
                      clear hb3 hb4 hch hb hkn e0
                      go_wp2_with fail
                      go_roundw
                      case rel => exact ⟨q + 1, _, by omega, by go_num, hb5, hkn4, hch4⟩
                      case measure => simp [intOf]; omega
                  · obtain rfl : q = n := by omega
                    go_wp2_with fail
                    obtain ⟨w5, hw5⟩ : ∃ w5, w5 = wr := ⟨_, rfl⟩
                    subst hw5
                    go_loopw [10, 11] (fun u i wr => ∃ (a : Nat) (v : Value) (ds : List DG), a ≤ m ∧ i = .int .i64 a ∧ u = .int .i64 ds.length ∧ Below w1.heap.size w1 wr ∧ Chk w1.heap.size wr (w1.heap.size + 3) w1.heap.size F v ds ∧
                        Hid (ds.map DG.pub = pubs (fun i => hasName q X (Q i)) Q L C a)) (fun _ i _ => m - (intOf i).toNat)
                    case atStart => exact ⟨0, _, [], Nat.zero_le _, rfl, rfl, hb, hch, rfl⟩
                    case round =>
                      obtain ⟨a, v, ds, ham, rfl, rfl, hbr, hchr, hpub⟩ := hrel
                      clear hb hch
                      by_cases hlt4 : a < m
                      · obtain ⟨b, off, hao, hbw, hr⟩ := hq.cellsAt hlt4
                        subst hao
                        obtain ⟨e0, e1, e2⟩ := hr wr hbr
                        have i1 : (a : Int) < (m : Int) := by omega
                        go_wp2_with fail
                        refine (contains_any ao q c X (Q a) _ (by omega) (h.below hbr)).mono ?_
                        rintro e w6 ⟨rfl, hw6⟩
                        subst hw6
                        have hchd : Chk w1.heap.size w6.drew (w1.heap.size + 3) w1.heap.size F v ds := hchr.below ((Below.refl _ _).drew)
                        have hbrd : Below w1.heap.size w1 w6.drew := hbr.drew
                        have HR : Hid (∀ w', Below w1.heap.size w1 w' → w'.cell? ⟨b, off + a * 3, none⟩ = some (.string (Q a)) ∧ w'.cell? ⟨b, off + a * 3 + 1, none⟩ = some (.int .i64 (L a)) ∧ w'.cell? ⟨b, off + a * 3 + 2, none⟩ = some (.int .i64 (C a))) := hr
                        clear hr h hq
                        cases hk : hasName q X (Q a) with
                        | true =>
                          obtain ⟨bt, hF⟩ := hkn.yes hk
                          have hpub2 : Hid (ds.map DG.pub = pubs (fun i => hasName q X (Q i)) Q L C (a + 1)) := (show ds.map DG.pub = _ from hpub.out).trans (pubs_known hk).symm
                          have HK : Hid (Knows q X F) := hkn
                          have HF : Hid (F (Q a) = some bt) := hF
                          clear hkn hpub hF
                          go_wp2_with fail
                          go_region_held3 (fun w' => w'.cell? ⟨b, off + a * 3, none⟩ = some (.string (Q a)) ∧ w'.cell? ⟨b, off + a * 3 + 1, none⟩ = some (.int .i64 (L a)) ∧ w'.cell? ⟨b, off + a * 3 + 2, none⟩ = some (.int .i64 (C a)))
                            (first | exact HR.out _ hbrd | exact HR.out _ (hbrd.trans (hb7.mono hbrd.size)))
                            ((go_at_call 16; refine (zzDeclared_hit w1.heap.size _ _ _ bt F v ds (Q a) (L a) (C a) hchd HF.out).mono ?_; rintro e w7 ⟨rfl, hb7⟩))
                          have hch7 := hchd.below hb7
                          have hbb7 : Below w1.heap.size w1 w7 := hbrd.trans (hb7.mono hbrd.size)
                          have f0 := (HR.out _ hbb7).1
                          have ht7 : Hid (w7.heap[bt]? = some (.cells (typCells (Q a)) 66 (0, 0))) := hch7.typ _ _ HF.out
                          clear hchd hbrd hb7 e0 e1 e2 hchr hbr
                          go_wp2_with fail
                          go_quiet ((first | (go_at_call 17; exact Calls.quiet_of_same (typName_any _ bt (Q a) ht7.out)) | (go_at_call 18; exact Calls.quiet_of_same (typKind_any _ bt (Q a) ht7.out))))
                          go_wp2_with fail
                          refine (diagCount_any w1.heap.size _ _ _ F v ds (hch7.below (below_draws w7 nq))).mono ?_
                          rintro e w8 ⟨rfl, hw8⟩
                          have hch8 := hch7.below (below_draws w7 nq)
                          have hbb8 := hbb7.trans (below_draws w7 nq)
                          rw [← hw8] at hch8 hbb8
                          clear hw8 hch7 hbb7 f0 ht7
                          go_wp2_with fail
                          go_roundw
                          case rel => exact ⟨a + 1, v, ds, by omega, by go_num, rfl, hbb8, hch8, hpub2⟩
                          case measure => simp [intOf]; omega
                        | false =>
                          have hF : Hid (F (Q a) = none) := hkn.no hk
                          have hdl : ds.length ≤ a := ds_le hpub.out
                          have HK : Hid (Knows q X F) := hkn
                          have HP : Hid (ds.map DG.pub = pubs (fun i => hasName q X (Q i)) Q L C a) := hpub
                          clear hkn hpub
                          go_wp2_with fail
                          go_region_held3 (fun w' => w'.cell? ⟨b, off + a * 3, none⟩ = some (.string (Q a)) ∧ w'.cell? ⟨b, off + a * 3 + 1, none⟩ = some (.int .i64 (L a)) ∧ w'.cell? ⟨b, off + a * 3 + 2, none⟩ = some (.int .i64 (C a)))
                            (first | exact HR.out _ hbrd | exact HR.out _ (hbrd.trans hb7))
                            ((go_at_call 16; refine (zzDeclared_miss w1.heap.size _ _ _ F v ds (Q a) (L a) (C a) hchd hbrd.size (by omega) hF.out).mono ?_; rintro e w7 ⟨rfl, hb7, hk7, v7, a7, hch7⟩))
                          have hbb7 : Below w1.heap.size w1 w7 := hbrd.trans hb7
                          have hpub2 : Hid ((ds ++ [DG.mk (L a) (C a) (Q a) a7]).map DG.pub = pubs (fun i => hasName q X (Q i)) Q L C (a + 1)) := by
                            show (ds ++ [DG.mk (L a) (C a) (Q a) a7]).map DG.pub = _
                            rw [pubs_unknown hk, ← HP.out, List.map_append]
                            rfl
                          clear hchd hbrd hb7 hk7 e0 e1 e2 hchr hbr
                          go_wp2_with fail
                          refine (diagCount_any w1.heap.size _ _ _ F v7 _ hch7).mono ?_
                          rintro e w8 ⟨rfl, hw8⟩
                          subst hw8
                          go_wp2_with fail
                          go_roundw
                          case rel => exact ⟨a + 1, v7, _, by omega, by go_num, by simp, hbb7, hch7, hpub2⟩
                          case measure => simp [intOf]; omega
                      · obtain rfl : a = m := by omega
                        obtain ⟨w6, hw6⟩ : ∃ w6, w6 = wr := ⟨_, rfl⟩
                        subst hw6
                        go_wp2_with fail
                        go_loopw [14, 15] (fun u i wr => ∃ g : Nat, g ≤ a ∧ i = .int .i64 g ∧ u = .int .i64 (unk (fun i => hasName q X (Q i)) g).length ∧ Below w1.heap.size w1 wr ∧ Chk w1.heap.size wr (w1.heap.size + 3) w1.heap.size F v ds) (fun _ i _ => a - (intOf i).toNat)
                        case atStart => exact ⟨0, Nat.zero_le _, rfl, rfl, hbr, hchr⟩
                        case round =>
                          obtain ⟨g, hga, rfl, rfl, hbg, hchg⟩ := hrel
                          clear hbr hchr
                          by_cases hlt5 : g < a
                          · obtain ⟨b, off, hao, hbw, hr⟩ := hq.cellsAt hlt5
                            subst hao
                            obtain ⟨e0, e1, e2⟩ := hr wr hbg
                            have i1 : (g : Int) < (a : Int) := by omega
                            have hul := unk_le (fun i => hasName q X (Q i)) g
                            go_wp2_with fail
                            refine (contains_any ao q c X (Q g) _ (by omega) (h.below hbg)).mono ?_
                            rintro e w7 ⟨rfl, hw7⟩
                            subst hw7
                            clear h hq
                            cases hk : hasName q X (Q g) with
                            | true =>
                              have hun : Hid ((unk (fun i => hasName q X (Q i)) (g + 1)).length = (unk (fun i => hasName q X (Q i)) g).length) := congrArg List.length (unk_known hk)
                              go_wp2_with fail
                              go_roundw
                              case rel => exact ⟨g + 1, by omega, by go_num, by rw [hun.out], hbg, hchg⟩
                              case measure => simp [intOf]; omega
                            | false =>
                              obtain ⟨a9, hd9⟩ := diag_of hpub.out hlt5 hk
                              have hun : Hid ((unk (fun i => hasName q X (Q i)) (g + 1)).length = (unk (fun i => hasName q X (Q i)) g).length + 1) := by
                                show (unk (fun i => hasName q X (Q i)) (g + 1)).length = _
                                rw [unk_unknown hk]
                                simp
                              have HD : Hid (ds[(unk (fun i => hasName q X (Q i)) g).length]? = some ⟨L g, C g, Q g, a9⟩) := hd9
                              have HR : Hid (∀ w', Below w1.heap.size w1 w' → w'.cell? ⟨b, off + g * 3, none⟩ = some (.string (Q g)) ∧ w'.cell? ⟨b, off + g * 3 + 1, none⟩ = some (.int .i64 (L g)) ∧ w'.cell? ⟨b, off + g * 3 + 2, none⟩ = some (.int .i64 (C g))) := hr
                              clear hd9 hr hpub hkn
                              go_wp2_with fail
                              refine (diagAt_any w1.heap.size _ _ _ F v ds _ ⟨L g, C g, Q g, a9⟩ hchg HD.out).mono ?_
                              rintro e w8 ⟨rfl, hb8⟩
                              have hch8 := hchg.below hb8
                              have hbb8 : Below w1.heap.size w1 w8 := hbg.trans (hb8.mono hbg.size)
                              clear e0 e1 e2 hb8 hchg hbg
                              have hbo : ∀ o, Below w1.heap.size w1 (w8.alloc o) := fun o => hbb8.alloc hbb8.size o
                              have e1 : ∀ o, (w8.alloc o).cell? ⟨b, off + g * 3 + 1, none⟩ = some (.int .i64 (L g)) := fun o => (HR.out _ (hbo o)).2.1
                              have e2 : ∀ o, (w8.alloc o).cell? ⟨b, off + g * 3 + 2, none⟩ = some (.int .i64 (C g)) := fun o => (HR.out _ (hbo o)).2.2
                              clear hbo
                              go_wp2_with fail
                              go_quiet (fail)
                              go_wp2_with fail
                              obtain ⟨w9, hw9⟩ : ∃ w9, w9 = (w8.alloc (.cells #[.int .i64 (L g), .int .i64 (C g), .int .i64 0, .string fmtText, .slice (some ⟨a9, 0, none⟩) 1 1] 50)).drewN nq := ⟨_, rfl⟩
                              have hb9 : Below w8.heap.size w8 w9 := by
                                rw [hw9]
                                exact ((Below.refl _ _).alloc (Nat.le_refl _) _).trans (below_draws _ nq)
                              have hd9 : w9.heap[w8.heap.size]? = some (.cells #[.int .i64 (L g), .int .i64 (C g), .int .i64 0, .string fmtText, .slice (some ⟨a9, 0, none⟩) 1 1] 50 (0, 0)) := by
                                rw [hw9]
                                exact heap_alloc_new w8 _
                              have hch9 := hch8.below hb9
                              have hbb9 : Below w1.heap.size w1 w9 := hbb8.trans (hb9.mono hbb8.size)
                              rw [← hw9]
                              clear hw9 e1 e2 hch8 hbb8 hb9
                              refine (diagArgCount_any _ (L g) (C g) a9).mono ?_
                              rintro e w10 ⟨rfl, hb10⟩
                              have hd10 := (hb10.block _ (heap_lt hd9)).trans hd9
                              have hch10 := hch9.below hb10
                              have hbb10 : Below w1.heap.size w1 w10 := hbb9.trans (hb10.mono hbb9.size)
                              clear hd9 hch9 hbb9 hb10
                              have g0 : w10.cell? ⟨w8.heap.size, 0, none⟩ = some (.int .i64 (L g)) := by rw [cell_of_row _ _ 0 _ _ _ hd10]; rfl
                              have g1 : w10.cell? ⟨w8.heap.size, 1, none⟩ = some (.int .i64 (C g)) := by rw [cell_of_row _ _ 1 _ _ _ hd10]; rfl
                              have g2 : w10.cell? ⟨w8.heap.size, 2, none⟩ = some (.int .i64 0) := by rw [cell_of_row _ _ 2 _ _ _ hd10]; rfl
                              have g3 : w10.cell? ⟨w8.heap.size, 3, none⟩ = some (.string fmtText) := by rw [cell_of_row _ _ 3 _ _ _ hd10]; rfl
                              have g4 : w10.cell? ⟨w8.heap.size, 4, none⟩ = some (.slice (some ⟨a9, 0, none⟩) 1 1) := by rw [cell_of_row _ _ 4 _ _ _ hd10]; rfl
                              clear hd10
                              have ha10 := hch10.args ⟨L g, C g, Q g, a9⟩ (List.mem_of_getElem? HD.out)
                              go_wp2_with fail
                              refine (diagArgString_any _ (L g) (C g) a9 (Q g) ha10).mono ?_
                              rintro e w11 ⟨rfl, hb11⟩
                              have hch11 := hch10.below hb11
                              have hbb11 : Below w1.heap.size w1 w11 := hbb10.trans (hb11.mono hbb10.size)
                              have e0 := (HR.out _ hbb11).1
                              clear g0 g1 g2 g3 g4 ha10 hch10 hbb10 hb11
                              go_wp2_with fail
                              go_roundw
                              case rel => exact ⟨g + 1, by omega, by go_num, by rw [hun.out]; simp, hbb11, hch11⟩
                              case measure => simp [intOf]; omega
                          · clear h hq
                            go_wp2_with fail
                            go_ret
                            exact ⟨rfl, hbg⟩
      · have d2 : decide ((4096 : Int) < (m : Int)) = true := by simp; omega
        clear h hq
        go_wp2_with fail
        go_ret
        exact ⟨rfl, Below.refl _ _⟩
    · have d1 : decide ((4096 : Int) < (n : Int)) = true := by simp; omega
      clear h hq
      go_wp2_with fail
      go_ret
      exact ⟨rfl, Below.refl _ _⟩
end Go.Proofs.Qxb6614573a
