/- Items are sorted by keys. -/
import Derived.Test.YtaifmeajfldckaaLFnSort
import Derived.Test.YtaifmeajfldckaaOpen
import Derived.Test.YtaifmeajfldckaaFacts
namespace Go.Proofs.Ytaifmeajfldckaa.rowFnSort
open Go.ChangeShapes Go.WideShapes Go.ChangeAt Go.RowKit Go.Proofs.Ytaifmeajfldckaa

set_option maxRecDepth 100000 in
theorem lifted (os : Os) (started : os.Started) (H : Type) (enc : TypeId × Value → H) :
    ReturnsInHanded {} Try.checked os 17 .any (Rows.fnSortSpec.pre6 enc Try.prog Try.f17 Rows.fnSortRow.domain false) (Rows.fnSortSpec.post enc Try.prog Try.f17 false true false false) := by
  refine returnsInHanded_of_change (C := Try.checked) own started (by kernel_rfl) Try.func17
    (ChangeSpec.witness6 (enc := enc) (C := Try.checked) false ⟨#[], #[.slice none 0 0], []⟩ 8 (by kernel_rfl) (by kernel_rfl) (by kernel_rfl) (by kernel_rfl)) ?_
  intro W base args ds gs before hval0 hW hcnd _
  have hval : ∀ (j : Nat) t v, Try.f17.params[j]? = some t → args[j]? = some v → Value.okWide Try.prog W .any base t v := hval0
  have hW' := hW
  obtain ⟨p, q, hA0, hV, rfl, hfz, hnd⟩ := hW
  have hA : DataW.TrodAll enc Try.prog W 0 (fun _ => true) true Try.f17.params.toList args.toList ds p := hA0
  rw [Try.params17] at hA hval
  obtain ⟨v0, vs0, d0, ds0, p0, q0, hargs, rfl, rfl, h0, r0⟩ := trodAll_cons hA
  obtain ⟨rfl, rfl, rfl⟩ := trodAll_nil r0
  obtain rfl : args = #[v0] := by cases args; simp_all
  obtain ⟨rfl, rfl⟩ := trodVars_none hV
  have k0 := h0
  have lt0 : ∀ x ∈ p0, x.block < W.heap.size := by obtain ⟨m, hm⟩ := k0; exact DataW.trod_lt m _ _ _ hm
  obtain ⟨a0, len0, cap0, rfl⟩ := okWide_slice Try.underlying22 (hval 0 22 v0 rfl rfl)
  obtain ⟨d, hL⟩ : ∃ d, Lst W W.heap.size (.slice a0 len0 cap0) d := by
    obtain ⟨fuel, hf⟩ := h0
    exact lst_of_trod (by simpa [Value.cells] using hf)
  clear hA0 hval0
  refine (lawFnSort _ d W hL).mono fun e W' ⟨he, bel⟩ => ?_
  subst he
  exact ⟨_, rfl, _, _, _, [], _, [], hW', trodAll_mk1 (shut_bool Try.underlying4 _), (trodAll_cons_mk (Below.trod laidOut (by kernel_rfl) (of_decide_eq_true (by kernel_rfl)) k0 bel lt0) trodAll_mk0), rfl, bel.frame _, fun h => by cases h⟩

theorem closed : joinedFacts Try.prog 17 Try.f17 Rows.fnSortSpec Rows.fnSortRow = true := by
  unfold joinedFacts
  repeat' (with_reducible refine band ?_ ?_)
  all_goals first
    | with_reducible exact factLaid
    | with_reducible exact factMaps
    | with_reducible exact factHeard
    | with_reducible exact factEnter
    | ((with_reducible refine factLifts' ?_); rfl)
    | ((with_reducible refine factMake' ?_); rfl)
    | (as_aux_lemma => kernel_rfl)

theorem over : Rows.fnSortRow.holds Try.pinned (OpenSpec.ofChange Rows.fnSortSpec) :=
  OpenClaim.holds_of_wide 17 Try.f17 rfl rfl rfl rfl rfl rfl rfl ⟨rfl, rfl, rfl, rfl, rfl⟩ rfl rfl rfl rfl rfl (by kernel_rfl) Try.func17 closed
    (of_decide_eq_true (by kernel_rfl)) (by unfold Func.isWrapper; rw [if_neg (of_decide_eq_false (by kernel_rfl))]; exact ⟨rfl, rfl⟩)
    (fun os started H enc _ => lifted os started H enc)
end Go.Proofs.Ytaifmeajfldckaa.rowFnSort
namespace Go.Proofs.Ytaifmeajfldckaa
/-- The statement. -/
theorem fnSort_holds : Rows.FnSortSaid := rowFnSort.over
#print axioms fnSort_holds
end Go.Proofs.Ytaifmeajfldckaa
