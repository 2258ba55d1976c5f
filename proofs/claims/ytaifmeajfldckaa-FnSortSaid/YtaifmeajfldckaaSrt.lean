/- sort's Sort over an Interface value, and impl.Sort. Condition: at most 4096 items. -/
import Derived.Test.YtaifmeajfldckaaWPdq
import Derived.Test.YtaifmeajfldckaaRowed
namespace Go.Proofs.Ytaifmeajfldckaa
open Go.RowKit Go.Sort Go.Proofs

section
variable {lt : (Int × Int) → (Int × Int) → Bool} {T : TypeId} {rv : Value} {gl gs gn : Nat} {rl rs rn : Value} {blk n : Nat}
theorem sort_short (lt : (Int × Int) → (Int × Int) → Bool) {d : Array (Int × Int)} (h : d.size ≤ 1) : Sort.sort lt d = d := by
  unfold Sort.sort
  rw [pdq_small (by omega)]
  exact insOuter_stop _ _ _ _ (by omega)
theorem sort_size (hO : SWO lt) (d : Array (Int × Int)) : (Sort.sort lt d).size = d.size := pdq_size hO _ (Nat.zero_le _) (Nat.le_refl _) (.inl rfl)
set_option maxHeartbeats 1000000 in
theorem sSort_any (hO : SWO lt) (hn4 : n ≤ 4096) (d : Array (Int × Int)) (w : World) (M : Meth lt T rv gl gs gn rl rs rn blk n w) (h : Tn blk d w w) (hs : d.size = n) :
    Calls Try.prog 72 #[.iface T rv] w fun e w' => e = .returned (.tuple #[]) ∧ Tn blk (Sort.sort lt d) w w' := by
  have hn := M.hn
  have en := M.en
  have mn := M.mn
  have HM : Aside _ := M
  have H : Aside _ := h
  have HS : Aside _ := hs
  have o0 := h.on
  have hl62 : bitsLen n ≤ 62 := (bitsLen_le_iff n 62).2 (by omega)
  have HE : Aside (Sort.sort lt d = pdq lt d 0 n (bitsLen n) true true) := by show _ = _; unfold Sort.sort; rw [hs]
  have hlen := aside (len_any n (by omega))
  have wr : IntKind.u64.wrap (n : Int) = n := by rw [IntKind.wrap_u64]; omega
  clear M h hs
  by_cases h1 : n ≤ 1
  · have HD : Aside (Sort.sort lt d = d) := sort_short lt (by rw [HS.out]; exact h1)
    go_enter Try.func72, Try.ntmps72
    go_wp2_with fail
    refine (HM.out.lenAt H.out HS.out).mono ?_
    rintro e w1 ⟨rfl, T1, o1, -⟩
    go_wp2_with fail
    go_returns
    exact ⟨rfl, by rw [HD.out]; exact T1.out⟩
  · have h1z : ¬ (n : Int) ≤ 1 := by omega
    go_enter Try.func72, Try.ntmps72
    go_wp2_with fail
    refine (HM.out.lenAt H.out HS.out).mono ?_
    rintro e w1 ⟨rfl, T1, o1, -⟩
    go_wp2_with fail
    refine (hlen.out w1).mono ?_
    rintro e w2 ⟨rfl, hw⟩
    obtain rfl : w1 = w2 := hw.symm
    go_wp2_with fail
    refine (pdq_at HM.out hO T1.out HS.out 0 n (bitsLen n) (Nat.zero_le _) (Nat.le_refl _) (by omega) (.inl rfl) rfl rfl rfl).mono ?_
    rintro e w3 ⟨rfl, T3, o3, -⟩
    go_wp2_with fail
    go_end0
    exact ⟨rfl, by rw [HE.out]; exact T3.out⟩
theorem sSort_at {w0 w : World} {d : Array (Int × Int)} (hO : SWO lt) (hn4 : n ≤ 4096) (M : Meth lt T rv gl gs gn rl rs rn blk n w0) (h : Tn blk d w0 w) (hs : d.size = n) :
    Calls Try.prog 72 #[.iface T rv] w (Post blk (Sort.sort lt d) w0 w (.tuple #[])) :=
  post_lift (sSort_any hO hn4 d w (M.at_ h hs) h.self hs) h (sort_size hO _)
end

set_option maxHeartbeats 1000000 in
theorem iSort_any (v : Value) (d : Array (Int × Int)) (w : World) (B : Nat) (hv : Lst w B v d) (hB0 : B ≤ w.heap.size) (hn : d.size ≤ 4096) :
    Calls Try.prog 45 #[v] w fun e w' => ∃ v', e = .returned v' ∧ Lst w' w'.heap.size v' (Sort.sort ltK d) ∧ Below w.heap.size w w' := by
  obtain ⟨r, hr⟩ : ∃ r, Sort.sort ltK d = r := ⟨_, rfl⟩
  have hrs : r.size ≤ 4096 := by rw [← hr, sort_size swoK _]; exact hn
  have hrz : r.size = d.size := by rw [← hr, sort_size swoK _]
  rw [hr]
  have HR := aside hr
  clear hr
  have hto := toSort_any v d w B hv hB0 hn
  go_enter Try.func45, Try.ntmps45
  go_wp2_with fail
  refine hto.mono ?_
  rintro e w1 ⟨v1, rfl, ho, hb1⟩
  obtain ⟨blk, hblk, T1, hI, hX⟩ := ho.row2 hb1.size
  have M := items_meth v1 blk d.size hI (by omega) w1
  have hs1 : d.size = d.size := rfl
  have HC := aside (sSort_at (w := w1) swoK hn M T1 hs1)
  clear hs1 hto
  go_wp2_with fail
  refine HC.out.mono ?_
  rw [HR.out]
  rintro e w2 ⟨rfl, T2, o2, -⟩
  have hL := T2.out.lst hrz hX (Nat.le_refl _)
  have hb2 := hb1.trans (T2.out.belowRow hblk hb1.size)
  have hof := ofSort_any v1 r w2 w2.heap.size hL (Nat.le_refl _) hrs
  clear T1 hI hL
  go_wp2_with fail
  refine hof.mono ?_
  rintro e w3 ⟨v3, rfl, ho3, hb3⟩
  go_wp2_with fail
  go_ret
  exact ⟨_, rfl, ho3.lst (Nat.le_refl _), hb2.trans (hb3.mono hb2.size)⟩
end Go.Proofs.Ytaifmeajfldckaa
