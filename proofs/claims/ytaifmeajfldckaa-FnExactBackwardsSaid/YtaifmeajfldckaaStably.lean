/- sort's Stable over an Interface value, and impl.Stably. Condition: at most 4096 items. -/
import Derived.Test.YtaifmeajfldckaaWSta
namespace Go.Proofs.Ytaifmeajfldckaa
open Go.RowKit Go.Sort Go.Proofs

section
variable {lt : (Int × Int) → (Int × Int) → Bool} {T : TypeId} {rv : Value} {gl gs gn : Nat} {rl rs rn : Value} {blk n : Nat}
set_option maxHeartbeats 1000000 in
theorem sStable_any (d : Array (Int × Int)) (w : World) (M : Meth lt T rv gl gs gn rl rs rn blk n w) (h : Tn blk d w w) (hs : d.size = n) :
    Calls Try.prog 64 #[.iface T rv] w fun e w' => e = .returned (.tuple #[]) ∧ Tn blk (Pl.stable lt d n) w w' := by
  have hn := M.hn
  have en := M.en
  have mn := M.mn
  have HM : Aside _ := M
  have H : Aside _ := h
  have HS : Aside _ := hs
  have o0 := h.on
  clear M h hs
  go_enter Try.func64, Try.ntmps64
  go_wp2_with fail
  refine (HM.out.lenAt H.out HS.out).mono ?_
  rintro e w1 ⟨rfl, T1, o1, -⟩
  go_wp2_with fail
  refine (stable_at HM.out T1.out HS.out rfl).mono ?_
  rintro e w2 ⟨rfl, T2, o2, -⟩
  go_wp2_with fail
  go_end0
  exact ⟨rfl, T2.out⟩
theorem sStable_at {w0 w : World} {d : Array (Int × Int)} (M : Meth lt T rv gl gs gn rl rs rn blk n w0) (h : Tn blk d w0 w) (hs : d.size = n) :
    Calls Try.prog 64 #[.iface T rv] w (Post blk (Pl.stable lt d n) w0 w (.tuple #[])) :=
  post_lift (sStable_any d w (M.at_ h hs) h.self hs) h (stable_size _ _ _)
end

set_option maxHeartbeats 1000000 in
theorem stably_any (v : Value) (d : Array (Int × Int)) (w : World) (B : Nat) (hv : Lst w B v d) (hB0 : B ≤ w.heap.size) (hn : d.size ≤ 4096) :
    Calls Try.prog 39 #[v] w fun e w' => ∃ v', e = .returned v' ∧ Lst w' w'.heap.size v' (Pl.stable ltK d d.size) ∧ Below w.heap.size w w' := by
  obtain ⟨r, hr⟩ : ∃ r, Pl.stable ltK d d.size = r := ⟨_, rfl⟩
  have hrs : r.size ≤ 4096 := by rw [← hr, stable_size _ _ _]; exact hn
  have hrz : r.size = d.size := by rw [← hr, stable_size _ _ _]
  rw [hr]
  have HR := aside hr
  clear hr
  have hto := toSort_any v d w B hv hB0 hn
  go_enter Try.func39, Try.ntmps39
  go_wp2_with fail
  refine hto.mono ?_
  rintro e w1 ⟨v1, rfl, ho, hb1⟩
  obtain ⟨blk, hblk, T1, hI, hX⟩ := ho.row2 hb1.size
  have M := items_meth v1 blk d.size hI (by omega) w1
  have hs1 : d.size = d.size := rfl
  have HC := aside (sStable_at (w := w1) M T1 hs1)
  clear hs1 hto
  go_wp2_with fail
  refine HC.out.mono ?_
  rw [HR.out]
  rintro e w2 ⟨rfl, T2, o2, -⟩
  have hL := T2.out.lst hrz hX (Nat.le_refl _)
  have hb2 := hb1.trans (T2.out.belowRow hblk hb1.size)
  have hof := ofSort_any v1 r w2 w2.heap.size hL (Nat.le_refl _) hrs
  clear T1 hI hL
  go_wp2_with fail
  refine hof.mono ?_
  rintro e w3 ⟨v3, rfl, ho3, hb3⟩
  go_wp2_with fail
  go_ret
  exact ⟨_, rfl, ho3.lst (Nat.le_refl _), hb2.trans (hb3.mono hb2.size)⟩
end Go.Proofs.Ytaifmeajfldckaa
