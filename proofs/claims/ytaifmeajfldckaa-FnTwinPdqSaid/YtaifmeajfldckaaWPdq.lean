/- loop.example/pub-sorttwins/pub/sorttwin.PDQSort and loop.example/pub-sorttwins/impl.Pdq give what the plain function gives. Condition: at most 4096 items, and the conditions of the plain function. -/
import Derived.Test.YtaifmeajfldckaaPdq
import Derived.Test.YtaifmeajfldckaaRowed
namespace Go.Proofs.Ytaifmeajfldckaa
open Go.RowKit Go.Sort Go.Proofs

set_option maxHeartbeats 1000000 in
theorem xPdq_any (v : Value) (d : Array (Int × Int)) (w : World) (B : Nat) (hv : Lst w B v d) (hn : d.size ≤ 4096) (a b limit : Nat) (hab : a ≤ b) (hb : b ≤ d.size) (hlim : limit ≤ 1000) (hB : Sort.Below ltK a b d) :
    Calls Try.prog 71 #[v, .int .i64 a, .int .i64 b, .int .i64 limit] w fun e w' => ∃ v', e = .returned v' ∧ Lst w' w'.heap.size v' (pdq ltK d a b limit true true) ∧ Below w.heap.size w w' := by
  obtain ⟨r, hr⟩ : ∃ r, pdq ltK d a b limit true true = r := ⟨_, rfl⟩
  rw [hr]
  have HR := aside hr
  clear hr
  have hcl := cloneSort_any v d w B hv hn
  go_enter Try.func71, Try.ntmps71
  go_wp2_with fail
  refine hcl.mono ?_
  rintro e w1 ⟨v1, rfl, ho, hb1⟩
  obtain ⟨blk, hblk, T1, hI, hX⟩ := ho.row2 hb1.size
  have M := items_meth v1 blk d.size hI (by omega) w1
  have hs1 : d.size = d.size := rfl
  have HC := aside (pdq_at (w := w1) M swoK T1 hs1 a b limit hab hb hlim hB rfl rfl rfl)
  clear hs1 hcl
  go_wp2_with fail
  refine HC.out.mono ?_
  rw [HR.out]
  rintro e w2 ⟨rfl, T2, o2, -⟩
  go_wp2_with fail
  go_ret
  exact ⟨_, rfl, T2.out.lst (by rw [← HR.out]; exact pdq_size swoK _ hab hb hB) hX (Nat.le_refl _), hb1.trans (T2.out.belowRow hblk hb1.size)⟩

set_option maxHeartbeats 1000000 in
theorem iPdq_any (v : Value) (d : Array (Int × Int)) (w : World) (B : Nat) (hv : Lst w B v d) (hB0 : B ≤ w.heap.size) (hn : d.size ≤ 4096) (a b limit : Nat) (hab : a ≤ b) (hb : b ≤ d.size) (hlim : limit ≤ 1000) (hB : Sort.Below ltK a b d) :
    Calls Try.prog 44 #[v, .int .i64 a, .int .i64 b, .int .i64 limit] w fun e w' => ∃ v', e = .returned v' ∧ Lst w' w'.heap.size v' (pdq ltK d a b limit true true) ∧ Below w.heap.size w w' := by
  obtain ⟨r, hr⟩ : ∃ r, pdq ltK d a b limit true true = r := ⟨_, rfl⟩
  have hrs : r.size ≤ 4096 := by rw [← hr, pdq_size swoK _ hab hb hB]; exact hn
  rw [hr]
  have HR := aside hr
  clear hr
  have hto := toSort_any v d w B hv hB0 hn
  go_enter Try.func44, Try.ntmps44
  go_wp2_with fail
  refine hto.mono ?_
  rintro e w1 ⟨v1, rfl, ho, hb1⟩
  have hx := xPdq_any v1 d w1 w1.heap.size (ho.lst (Nat.le_refl _)) hn a b limit hab hb hlim hB
  rw [HR.out] at hx
  clear hto
  go_wp2_with fail
  refine hx.mono ?_
  rintro e w2 ⟨v2, rfl, hl2, hb2⟩
  have hof := ofSort_any v2 r w2 w2.heap.size hl2 (Nat.le_refl _) hrs
  clear hx
  go_wp2_with fail
  refine hof.mono ?_
  rintro e w3 ⟨v3, rfl, ho3, hb3⟩
  go_wp2_with fail
  go_ret
  exact ⟨_, rfl, ho3.lst (Nat.le_refl _), hb1.trans ((hb2.mono hb1.size).trans (hb3.mono (Nat.le_trans hb1.size hb2.size)))⟩
end Go.Proofs.Ytaifmeajfldckaa
