/-
  THE ROW's FRAME, from the contract of the search on. It goes after the guide's template.
-/
import Derived.Test.Qxb6614821aLaw
import Derived.ProofKit
import Derived.OpenShut
import Derived.ShutString
import Derived.ChangeOld
import Derived.Deep.Matrix
namespace Go.Proofs.Qxb6614821a
open Go.ChangeShapes Go.WideShapes Go.ChangeAt Go.RowKit

theorem Try.own : ownKnob Try.prog.godebug = none := by kernel_rfl
theorem Try.laidOut : laidOutB Try.prog = true := by kernel_rfl
theorem Try.cells24 : Try.prog.cellsOf 24 = 1 := by kernel_rfl
theorem Try.cells21 : Try.prog.cellsOf 21 = 1 := by kernel_rfl

theorem open_mat {H : Type} {enc : TypeId × Value → H} {w : World} {base : Nat} {held : Bool} {fuel : Nat} {a0 : Option Addr} {len cap : Nat} {x : DataW H × List MemPlace}
    (h : DataW.trod enc Try.prog w base (fun _ => true) held fuel 22 [.slice a0 len cap] = some x) : ∃ A Len C X, Mat w a0 len A Len C X := by
  rcases Go.Deep.open_int_rows Try.underlying22 Try.underlying24 Try.underlying21 Try.cells24 Try.cells21 h with ⟨h0, _⟩ | ⟨a, l, c, A, L, C, Z, hcs, _, hl, hm, _, hx⟩
  · simp at h0
    obtain ⟨rfl, rfl, rfl⟩ := h0
    exact ⟨fun _ => none, fun _ => 0, fun _ => 0, fun _ _ => 0, by omega, .inl rfl, fun v hv => absurd hv (Nat.not_lt_zero _), fun v hv => absurd hv (Nat.not_lt_zero _), fun v hv => absurd hv (Nat.not_lt_zero _)⟩
  · simp at hcs
    obtain ⟨rfl, rfl, rfl⟩ := hcs
    unfold maxLen at hm hx
    refine ⟨A, L, C, fun v j => (Z v).getD j 0, by omega, ?_, fun v hv => ?_, fun v hv => ?_, fun v hv j hj => ?_⟩
    · by_cases hz : len = 0
      · exact .inl hz
      · obtain ⟨b, off, spot⟩ := a
        have hc := (hx 0 (by omega)).1
        have hspot : spot = none := by simpa [Addr.add] using World.cell?_spot hc
        subst hspot
        exact .inr ⟨b, off, rfl, fun v hv => by
          have := (hx v (by omega)).1
          rwa [add_plain] at this⟩
    · obtain ⟨_, r1, r2, _⟩ := hx v (by omega)
      omega
    · obtain ⟨_, r1, r2, r3, r4, r5, r6⟩ := hx v (by omega)
      by_cases hz : L v = 0
      · exact .inl hz
      · cases hA : A v with
        | none => exact absurd (r5 hA) (by omega)
        | some a' =>
          obtain ⟨b, off, spot⟩ := a'
          have hc := (r6 _ hA).2 0 (by omega)
          have hspot : spot = none := by simpa [Addr.add] using World.cell?_spot hc
          subst hspot
          exact .inr ⟨b, off, rfl, fun j hj => by
            have := (r6 _ hA).2 j (by omega)
            rwa [add_plain] at this⟩
    · obtain ⟨_, r1, r2, r3, r4, _⟩ := hx v (by omega)
      refine bounds_i32 (r4 _ ?_)
      have hlt : j < (Z v).length := by omega
      rw [List.getD_eq_getElem?_getD, List.getElem?_eq_getElem hlt]
      exact List.getElem_mem hlt

set_option maxRecDepth 100000 in
theorem roles_lifted (zz : ZzSays) (os : Os) (started : os.Started) (H : Type) (enc : TypeId × Value → H) :
    ReturnsInHanded {} Try.checked os 3 .any (Rows.fnRolesWithinIsBreadthFirstClosureSpec.pre6 enc Try.prog Try.f3 Rows.fnRolesWithinIsBreadthFirstClosureRow.domain false) (Rows.fnRolesWithinIsBreadthFirstClosureSpec.post enc Try.prog Try.f3 false true false false) := by
  refine returnsInHanded_of_change (C := Try.checked) Try.own started (by kernel_rfl) Try.func3
    (ChangeSpec.witness6 (enc := enc) (C := Try.checked) false ⟨#[], #[.slice none 0 0, .slice none 0 0, .int .i32 0], []⟩ 8 (by kernel_rfl) (by kernel_rfl) (by kernel_rfl) (by kernel_rfl)) ?_
  intro W base args ds gs before hval0 hW hcnd _
  have hval : ∀ (j : Nat) t v, Try.f3.params[j]? = some t → args[j]? = some v → Value.okWide Try.prog W .any base t v := hval0
  have hW' := hW
  obtain ⟨p, q, hA0, hV, rfl, hfz, hnd⟩ := hW
  have hA : DataW.TrodAll enc Try.prog W 0 (fun _ => true) true Try.f3.params.toList args.toList ds p := hA0
  rw [Try.params3] at hA hval
  obtain ⟨v0, vs0, d0, ds0, p0, q0, hargs, rfl, rfl, h0, r0⟩ := trodAll_cons hA
  obtain ⟨v1, vs1, d1, ds1, p1, q1, rfl, rfl, rfl, h1, r1⟩ := trodAll_cons r0
  obtain ⟨v2, vs2, d2, ds2, p2, q2, rfl, rfl, rfl, h2, r2⟩ := trodAll_cons r1
  obtain ⟨rfl, rfl, rfl⟩ := trodAll_nil r2
  obtain rfl : args = #[v0, v1, v2] := by cases args; simp_all
  obtain ⟨rfl, rfl⟩ := trodVars_none hV
  obtain ⟨a0, len0, cap0, rfl⟩ := okWide_slice Try.underlying22 (hval 0 22 v0 rfl rfl)
  obtain ⟨a1, len1, cap1, rfl⟩ := okWide_slice Try.underlying22 (hval 1 22 v1 rfl rfl)
  have k0 := h0
  have k1 := h1
  have lt0 : ∀ x ∈ p0, x.block < W.heap.size := by obtain ⟨m, hm⟩ := k0; exact DataW.trod_lt m _ _ _ hm
  have lt1 : ∀ x ∈ p1, x.block < W.heap.size := by obtain ⟨m, hm⟩ := k1; exact DataW.trod_lt m _ _ _ hm
  obtain ⟨A, Len, C, X, w0⟩ : ∃ A Len C X, Mat W a0 len0 A Len C X := by
    obtain ⟨fuel, hf⟩ := h0
    exact open_mat (by simpa [Value.cells] using hf)
  obtain ⟨A', Len', C', X', w1⟩ : ∃ A Len C X, Mat W a1 len1 A Len C X := by
    obtain ⟨fuel, hf⟩ := h1
    exact open_mat (by simpa [Value.cells] using hf)
  obtain ⟨a2, rfl, rfl, rfl, w2⟩ := open_int Try.underlying21 (hval 2 21 v2 rfl rfl) h2
  clear hA0 hval0
  refine (law_walk zz a0 a1 len0 len1 cap0 cap1 A A' Len Len' C C' X X' a2 W w0 w1 (bounds_i32 w2).1 (bounds_i32 w2).2).mono fun e W' ⟨he, bel⟩ => ?_
  subst he
  exact ⟨_, rfl, _, _, _, [], _, [], hW', trodAll_mk1 (shut_bool Try.underlying4 _), (trodAll_cons_mk (Below.trod Try.laidOut (by kernel_rfl) (of_decide_eq_true (by kernel_rfl)) k0 bel lt0) (trodAll_cons_mk (Below.trod Try.laidOut (by kernel_rfl) (of_decide_eq_true (by kernel_rfl)) k1 bel lt1) (trodAll_cons_mk (shut_int Try.underlying21 w2) trodAll_mk0))), rfl, bel.frame _, fun h => by cases h⟩

theorem roles_holds (zz : ZzSays) : Rows.FnRolesWithinIsBreadthFirstClosureSaid :=
  OpenClaim.holds_of_wide 3 Try.f3 rfl rfl rfl rfl rfl rfl rfl ⟨rfl, rfl, rfl, rfl, rfl⟩ rfl rfl rfl rfl rfl (by kernel_rfl) Try.func3 (by kernel_rfl)
    (of_decide_eq_true (by kernel_rfl)) (by unfold Func.isWrapper; first | (rw [if_pos (by decide +kernel)]; kernel_rfl) | (rw [if_neg (by decide +kernel)]; exact ⟨rfl, rfl⟩))
    (fun os started H enc _ => roles_lifted zz os started H enc)
end Go.Proofs.Qxb6614821a
