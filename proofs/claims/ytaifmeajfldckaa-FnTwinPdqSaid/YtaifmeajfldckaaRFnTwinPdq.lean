/- Both twins give the same by quicksort, of items with the same key too. -/
import Derived.Test.YtaifmeajfldckaaLFnTwinPdq
import Derived.Test.YtaifmeajfldckaaOpen
import Derived.Test.YtaifmeajfldckaaFacts
namespace Go.Proofs.Ytaifmeajfldckaa.rowFnTwinPdq
open Go.ChangeShapes Go.WideShapes Go.ChangeAt Go.RowKit Go.Proofs.Ytaifmeajfldckaa

set_option maxRecDepth 100000 in
theorem lifted (os : Os) (started : os.Started) (H : Type) (enc : TypeId × Value → H) :
    ReturnsInHanded {} Try.checked os 18 .any (Rows.fnTwinPdqSpec.pre6 enc Try.prog Try.f18 Rows.fnTwinPdqRow.domain false) (Rows.fnTwinPdqSpec.post enc Try.prog Try.f18 false true false false) := by
  refine returnsInHanded_of_change (C := Try.checked) own started (by kernel_rfl) Try.func18
    (ChangeSpec.witness6 (enc := enc) (C := Try.checked) false ⟨#[], #[.slice none 0 0, .int .i64 0, .int .i64 0, .int .i64 0], []⟩ 8 (by kernel_rfl) (by kernel_rfl) (by kernel_rfl) (by kernel_rfl)) ?_
  intro W base args ds gs before hval0 hW hcnd _
  have hval : ∀ (j : Nat) t v, Try.f18.params[j]? = some t → args[j]? = some v → Value.okWide Try.prog W .any base t v := hval0
  have hW' := hW
  obtain ⟨p, q, hA0, hV, rfl, hfz, hnd⟩ := hW
  have hA : DataW.TrodAll enc Try.prog W 0 (fun _ => true) true Try.f18.params.toList args.toList ds p := hA0
  rw [Try.params18] at hA hval
  obtain ⟨v0, vs0, d0, ds0, p0, q0, hargs, rfl, rfl, h0, r0⟩ := trodAll_cons hA
  obtain ⟨v1, vs1, d1, ds1, p1, q1, rfl, rfl, rfl, h1, r1⟩ := trodAll_cons r0
  obtain ⟨v2, vs2, d2, ds2, p2, q2, rfl, rfl, rfl, h2, r2⟩ := trodAll_cons r1
  obtain ⟨v3, vs3, d3, ds3, p3, q3, rfl, rfl, rfl, h3, r3⟩ := trodAll_cons r2
  obtain ⟨rfl, rfl, rfl⟩ := trodAll_nil r3
  obtain rfl : args = #[v0, v1, v2, v3] := by cases args; simp_all
  obtain ⟨rfl, rfl⟩ := trodVars_none hV
  have k0 := h0
  have lt0 : ∀ x ∈ p0, x.block < W.heap.size := by obtain ⟨m, hm⟩ := k0; exact DataW.trod_lt m _ _ _ hm
  obtain ⟨a0, len0, cap0, rfl⟩ := okWide_slice Try.underlying22 (hval 0 22 v0 rfl rfl)
  obtain ⟨d, hL⟩ : ∃ d, Lst W W.heap.size (.slice a0 len0 cap0) d := by
    obtain ⟨fuel, hf⟩ := h0
    exact lst_of_trod (by simpa [Value.cells] using hf)
  obtain ⟨a1, rfl, rfl, rfl, w1⟩ := open_int Try.underlying3 (hval 1 3 v1 rfl rfl) h1
  obtain ⟨a2, rfl, rfl, rfl, w2⟩ := open_int Try.underlying3 (hval 2 3 v2 rfl rfl) h2
  obtain ⟨a3, rfl, rfl, rfl, w3⟩ := open_int Try.underlying3 (hval 3 3 v3 rfl rfl) h3
  clear hA0 hval0
  refine (lawFnTwinPdq _ d W hL a1 a2 a3 w1 w2 w3).mono fun e W' ⟨he, bel⟩ => ?_
  subst he
  exact ⟨_, rfl, _, _, _, [], _, [], hW', trodAll_mk1 (shut_bool Try.underlying4 _), (trodAll_cons_mk (Below.trod laidOut (by kernel_rfl) (of_decide_eq_true (by kernel_rfl)) k0 bel lt0) (trodAll_cons_mk (shut_int Try.underlying3 w1) (trodAll_cons_mk (shut_int Try.underlying3 w2) (trodAll_cons_mk (shut_int Try.underlying3 w3) trodAll_mk0)))), rfl, bel.frame _, fun h => by cases h⟩

theorem closed : joinedFacts Try.prog 18 Try.f18 Rows.fnTwinPdqSpec Rows.fnTwinPdqRow = true := by
  unfold joinedFacts
  repeat' (with_reducible refine band ?_ ?_)
  all_goals first
    | with_reducible exact factLaid
    | with_reducible exact factMaps
    | with_reducible exact factHeard
    | with_reducible exact factEnter
    | ((with_reducible refine factLifts' ?_); rfl)
    | ((with_reducible refine factMake' ?_); rfl)
    | (as_aux_lemma => kernel_rfl)

theorem over : Rows.fnTwinPdqRow.holds Try.pinned (OpenSpec.ofChange Rows.fnTwinPdqSpec) :=
  OpenClaim.holds_of_wide 18 Try.f18 rfl rfl rfl rfl rfl rfl rfl ⟨rfl, rfl, rfl, rfl, rfl⟩ rfl rfl rfl rfl rfl (by kernel_rfl) Try.func18 closed
    (of_decide_eq_true (by kernel_rfl)) (by unfold Func.isWrapper; rw [if_neg (of_decide_eq_false (by kernel_rfl))]; exact ⟨rfl, rfl⟩)
    (fun os started H enc _ => lifted os started H enc)
end Go.Proofs.Ytaifmeajfldckaa.rowFnTwinPdq
namespace Go.Proofs.Ytaifmeajfldckaa
/-- The statement. -/
theorem fnTwinPdq_holds : Rows.FnTwinPdqSaid := rowFnTwinPdq.over
#print axioms fnTwinPdq_holds
end Go.Proofs.Ytaifmeajfldckaa
