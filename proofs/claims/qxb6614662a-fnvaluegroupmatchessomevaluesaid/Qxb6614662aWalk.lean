import Derived.Test.Qxb6614662aLaw
namespace Go.Proofs.Qxb6614662a
open Go.RowKit

/-- 'copy(zzc, texts)' -/
theorem copy_texts (w : World) (b off n c : Nat) (X : Nat → ByteArray) (h : StrRow w b off n X) :
    ∃ w', (Builtin.copy_ #[25, 25] 3 #[.slice (some ⟨w.heap.size, 0, none⟩) n n, .slice (some ⟨b, off, none⟩) n c]).run Try.prog (w.alloc (.cells (madeCells #[.string ByteArray.empty] n) 9)) = .ok (goInt n) w' ∧ Below w.heap.size w w' ∧ StrRow w' w.heap.size 0 n X := by
  have hb : Below w.heap.size w (w.alloc (.cells (madeCells #[.string ByteArray.empty] n) 9)) := (Below.refl _ _).alloc (Nat.le_refl _) _
  have hl : ((List.range n).map fun i => Value.string (X i)).length = n := by simp
  have hsz : (Try.prog.info? 9).map (·.size) = some 1 := by
    obtain ⟨i, hi, _, q, _⟩ := info_parts Try.info9
    rw [hi]
    exact congrArg some q
  have hrun := run_copy_row (P := Try.prog) (w.alloc (.cells (madeCells #[.string ByteArray.empty] n) 9)) 25 25 3 9 w.heap.size 0 n n ⟨b, off, none⟩ n c _ 9 ((List.range n).map fun i => Value.string (X i))
    Try.underlying25 hsz (heap_alloc_new w _) (by rw [hl]; exact (Nat.min_self n).symm)
    (fun j v hj => by
      have hjn : j < n := by
        have := (List.getElem?_eq_some_iff.1 hj).1
        simpa using this
      rw [Addr.add_lit]
      rw [List.getElem?_map, List.getElem?_range hjn] at hj
      simp at hj
      subst hj
      exact (hb.cell (World.block_lt_of_cell? _ _ (h j hjn))).trans (h j hjn))
    (by rw [hl, size_madeCells]; omega) (by intro v hv; simp at hv; obtain ⟨i, _, rfl⟩ := hv; rfl)
  rw [hl] at hrun
  refine ⟨_, hrun, below_setRow hb (Nat.le_refl _) _, fun i hi => ?_⟩
  have hr := setRow_heap (w.alloc (.cells (madeCells #[.string ByteArray.empty] n) 9)) w.heap.size _
    ((madeCells #[.string ByteArray.empty] n).toList.take 0 ++ (List.range n).map (fun i => Value.string (X i)) ++ (madeCells #[.string ByteArray.empty] n).toList.drop (0 + n)).toArray 9 _ (heap_alloc_new w _)
  rw [cell_of_row _ _ (0 + i) _ _ _ hr]
  simp only [List.take_zero, List.nil_append, Nat.zero_add, List.getElem?_toArray]
  rw [List.getElem?_append_left (by simpa using hi)]
  simp [hi]

set_option maxHeartbeats 4000000 in
theorem law_walk (gn : Bool) (gk : Int) (ao : Option Addr) (n c : Nat) (X : Nat → ByteArray) (x : ByteArray) (wk : Int) (wn : Bool) (w : World) (h : NamesIn w ao n c X) (hx : x.size ≤ 9223372036854775807) (hg0 : 0 ≤ gk) :
    Calls Try.prog 5 #[.bool gn, .int .u8 gk, .slice ao n c, .string x, .int .u8 wk, .bool wn] w fun e w' => e = .returned (.bool true) ∧ Below w.heap.size w w' := by
  go_enter Try.func5, Try.ntmps5
  go_wp2_with fail
  refine (zzBytes13 ao n c X x gn wn gk wk _ h hx).mono ?_
  rintro e w1 ⟨hw, rfl | ⟨rfl, hfine⟩⟩
  · subst hw
    clear h
    go_wp2_with fail
    go_ret
    exact ⟨rfl, Below.refl _ _⟩
  · subst hw
    obtain ⟨hn, hsh, hx2⟩ := hfine
    have HH : Hid (NamesIn w1 ao n c X) := h
    have HS : Hid (Short n X) := hsh
    clear h hsh
    by_cases hn2 : n ≤ 65536
    · by_cases hx3 : x.size ≤ 65536
      · go_wp2_with fail
        refine (textsBytes_any ao n c X x.size _ HH.out HS.out (by omega)).mono ?_
        rintro e w2 ⟨hw2, r, rfl⟩
        subst hw2
        by_cases hr : 1048576 < r
        · go_wp2_with fail
          go_ret
          exact ⟨rfl, Below.refl _ _⟩
        · by_cases hgk : gk ≤ 1
          · have d1 : decide ((1 : Int) < gk) = false := by simp; omega
            by_cases hwk : wk ≤ 2
            · have d2 : decide ((2 : Int) < wk) = false := by simp; omega
              by_cases hpos : 0 < n
              · have d3 : ((n : Int) == 0) = false := by rw [beq_eq_false_iff_ne]; omega
                go_wp2_with fail
                refine (strictlyRising_any gk ao n c X _ HH.out HS.out (by omega) hpos).mono ?_
                rintro e w3 ⟨⟨d, hd⟩, rfl | ⟨rfl, hri⟩⟩
                · have hb3 : Below w2.heap.size w2 w3 := by rw [hd]; exact ⟨rfl, rfl, rfl, Nat.le_refl _, fun _ _ => rfl⟩
                  clear hd
                  go_wp2_with fail
                  go_ret
                  exact ⟨rfl, hb3⟩
                · have hb3 : Below w2.heap.size w2 w3 := by rw [hd]; exact ⟨rfl, rfl, rfl, Nat.le_refl _, fun _ _ => rfl⟩
                  obtain ⟨b, off, hao, hrow⟩ : ∃ b off, ao = some ⟨b, off, none⟩ ∧ StrRow w2 b off n X := by
                    rcases HH.out.row with q | q
                    · omega
                    · exact q
                  have hrow3 : Hid (StrRow w3 b off n X) := fun i hi => (hb3.cell (World.block_lt_of_cell? _ _ (hrow i hi))).trans (hrow i hi)
                  have HRI : Hid (Rising n (fun i => keyOf gk (X i))) := hri
                  subst hao
                  have hnn := fun w => run_neq_slice_nil_any (P := Try.prog) w 25 9 (some ⟨b, off, none⟩) n c 0 0 Try.underlying25
                  have hmk := run_make_row' (P := Try.prog) 25 9 (.string ByteArray.empty) 16 Try.underlying25 Try.info9 rfl .i64 .i64 n (by omega) (by omega)
                  clear hd hri hrow
                  obtain ⟨w4, hcp, hb4, hrow4⟩ := copy_texts w3 b off n c X hrow3.out
                  have HCP : Hid ((Builtin.copy_ #[25, 25] 3 #[.slice (some ⟨w3.heap.size, 0, none⟩) n n, .slice (some ⟨b, off, none⟩) n c]).run Try.prog (w3.alloc (.cells (madeCells #[.string ByteArray.empty] n) 9)) = .ok (goInt n) w4) := hcp
                  clear hcp
                  go_wp2_with fail
                  rw [show (Builtin.copy_ #[25, 25] 3 #[.slice (some ⟨w3.heap.size, 0, none⟩) n n, .slice (some ⟨b, off, none⟩) n c]).run Try.prog (w3.alloc (.cells (madeCells #[.string ByteArray.empty] n) 9)) = .ok (goInt n) w4 from HCP.out]
                  simp only [Result.andThen]
                  rw [Oper.upon_value]
                  clear HCP hnn hmk
                  have hb5 : Below w2.heap.size w2 w4 := hb3.trans (hb4.mono hb3.size)
                  have HRow : Hid (StrRow w4 w3.heap.size 0 n X) := hrow4
                  clear hb3 hb4 hrow3 hrow4
                  go_wp2_with fail
                  refine (matchesText_any gn gk w3.heap.size 0 n n X x wk wn _ (by omega) hpos hn2 hx3 HS.out HRow.out HRI.out).mono ?_
                  rintro e w5 ⟨rfl, hb6⟩
                  have HRow5 : Hid (StrRow w5 w3.heap.size 0 n X) := fun i hi => (hb6.cell (World.block_lt_of_cell? _ _ (HRow.out i hi))).trans (HRow.out i hi)
                  have hb7 : Below w2.heap.size w2 w5 := hb5.trans (hb6.mono hb5.size)
                  clear hb5 hb6 HRow
                  go_wp2_with fail
                  refine (matchesText_any (!gn) gk w3.heap.size 0 n n X x wk (!wn) _ (by omega) hpos hn2 hx3 HS.out HRow5.out HRI.out).mono ?_
                  rintro e w6 ⟨rfl, hb8⟩
                  have HRow6 : Hid (StrRow w6 w3.heap.size 0 n X) := fun i hi => (hb8.cell (World.block_lt_of_cell? _ _ (HRow5.out i hi))).trans (HRow5.out i hi)
                  have hb9 : Below w2.heap.size w2 w6 := hb7.trans (hb8.mono hb7.size)
                  clear hb7 hb8 HRow5
                  have hfl : Hid (matchesB (!gn) gk n (fun i => keyOf gk (X i)) (keyOf gk x) wk (!wn) = matchesB gn gk n (fun i => keyOf gk (X i)) (keyOf gk x) wk wn) := matches_flip
                  have hgr : Hid (matchesB gn gk n (fun i => keyOf gk (X i)) (keyOf gk x) wk wn = groupMatch gn gk n (fun i => keyOf gk (X i)) (keyOf gk x) wk wn) := matches_group hpos HRI.out
                  rw [show matchesB (!gn) gk n (fun i => keyOf gk (X i)) (keyOf gk x) wk (!wn) = groupMatch gn gk n (fun i => keyOf gk (X i)) (keyOf gk x) wk wn from hfl.out.trans hgr.out]
                  go_wp2_with fail
                  refine (groupMatches_any gn gk w3.heap.size 0 n n X x wk wn _ hn2 hx3 HS.out HRow6.out).mono ?_
                  rintro e w7 ⟨rfl, hw7⟩
                  subst hw7
                  rw [show matchesB gn gk n (fun i => keyOf gk (X i)) (keyOf gk x) wk wn = groupMatch gn gk n (fun i => keyOf gk (X i)) (keyOf gk x) wk wn from hgr.out]
                  generalize groupMatch gn gk n (fun i => keyOf gk (X i)) (keyOf gk x) wk wn = gm
                  clear hfl hgr
                  go_wp2_with fail
                  go_ret
                  exact ⟨rfl, hb9⟩
              · obtain rfl : n = 0 := by omega
                go_wp2_with fail
                go_ret
                exact ⟨rfl, Below.refl _ _⟩
            · have d2 : decide ((2 : Int) < wk) = true := by simp; omega
              go_wp2_with fail
              go_ret
              exact ⟨rfl, Below.refl _ _⟩
          · have d1 : decide ((1 : Int) < gk) = true := by simp; omega
            go_wp2_with fail
            go_ret
            exact ⟨rfl, Below.refl _ _⟩
      · go_wp2_with fail
        go_ret
        exact ⟨rfl, Below.refl _ _⟩
    · go_wp2_with fail
      go_ret
      exact ⟨rfl, Below.refl _ _⟩
end Go.Proofs.Qxb6614662a
