/- The walk of the law FnTwinPartition: both partitions move the same keys. It returns true for every input, and leaves all that lay there as it was. No condition. -/
import Derived.Test.YtaifmeajfldckaaWPart
import Derived.Test.YtaifmeajfldckaaTwNP
namespace Go.Proofs.Ytaifmeajfldckaa
open Go.RowKit Go.Sort Go.Proofs

set_option maxHeartbeats 8000000 in
set_option maxRecDepth 100000 in
theorem lawFnTwinPartition (v : Value) (d : Array (Int × Int)) (w : World) (hv : Lst w w.heap.size v d) (a : Int) (b : Int) (p : Int) (_wa : (Lit.int .i64 a).wf = true) (_wb : (Lit.int .i64 b).wf = true) (_wp : (Lit.int .i64 p).wf = true) :
    Calls Try.prog 9 #[v, .int .i64 a, .int .i64 b, .int .i64 p] w fun e w' => e = .returned (.bool true) ∧ Below w.heap.size w w' := by
  have HV := aside hv
  obtain ⟨A, c, rfl, hc, hm, hA⟩ := hv
  by_cases hr : 0 ≤ a ∧ a ≤ b ∧ b ≤ d.size ∧ d.size ≤ 4096
  · obtain ⟨h1, h2, h3, hn⟩ := hr
    obtain ⟨a, rfl⟩ := Int.eq_ofNat_of_zero_le h1
    obtain ⟨b, rfl⟩ := Int.eq_ofNat_of_zero_le (Int.le_trans h1 h2)
    have hab : a ≤ b := by omega
    have hbn : b ≤ d.size := by omega
    have hR := itemRange_yes A d.size c a b w h1 h2 h3 hn
    have g1 : ¬ (2147483647 : Int) < (d.size : Int) := by omega
    clear h1 h2 h3
    by_cases hpa : p < (a : Int)
    · clear hA
      go_enter Try.func9, Try.ntmps9
      go_wp2_with fail
      refine hR.mono ?_
      rintro e w' ⟨rfl, hw⟩
      obtain rfl : w = w' := hw.symm
      clear hR
      go_wp2_with fail
      go_ret
      exact ⟨rfl, Below.refl _ _⟩
    · by_cases hpb : p ≥ (b : Int)
      · clear hA
        go_enter Try.func9, Try.ntmps9
        go_wp2_with fail
        refine hR.mono ?_
        rintro e w' ⟨rfl, hw⟩
        obtain rfl : w = w' := hw.symm
        clear hR
        go_wp2_with fail
        go_ret
        exact ⟨rfl, Below.refl _ _⟩
      · obtain ⟨p, rfl⟩ := Int.eq_ofNat_of_zero_le (show 0 ≤ p by omega)
        have hap' : a ≤ p := by omega
        have hpb' : p < b := by omega
        clear hA
        have hrz : Aside ((partition ltK d a b p).2.2.size = d.size) := Pl.partition_size _ _ _ _
        have hks : Aside ((keysOf d).size = d.size) := keysOf_size d
        have hP := aside (iPart_any _ d w w.heap.size HV.out (Nat.le_refl _) hn a b p hap' hpb' hbn)
        have hQ : Aside (∀ (v2 : Value) (w2 : World), LstN w2 w2.heap.size v2 (keysOf d) → Calls Try.prog 31 #[v2, .int .i64 a, .int .i64 b, .int .i64 p] w2 fun e w' => ∃ v', e = .returned (.tuple #[v', .int .i64 (partition ltK d a b p).1, .bool (partition ltK d a b p).2.1]) ∧ LstN w' w'.heap.size v' (keysOf (partition ltK d a b p).2.2) ∧ Below w2.heap.size w2 w') := by
          intro v2 w2 h2
          have := iNPart_any v2 (keysOf d) w2 w2.heap.size h2 (Nat.le_refl _) (by rw [hks.out]; exact hn) a b p hap' hpb' (by rw [hks.out]; exact hbn)
          rw [keys_partition] at this
          exact this
        generalize partition ltK d a b p = r at hrz hP hQ
        obtain ⟨q, fl, dd⟩ := r
        simp only at hrz hP hQ
        have HNN := aside hn
        go_enter Try.func9, Try.ntmps9
        go_wp2_with fail
        refine hR.mono ?_
        rintro e w' ⟨rfl, hw⟩
        obtain rfl : w = w' := hw.symm
        clear hR
        go_wp2_with fail
        refine hP.out.mono ?_
        rintro e w1 ⟨v1, rfl, hl1, hb1⟩
        have HL1 := aside hl1
        clear hl1
        go_wp2_with fail
        refine (keys_any _ d w1 w.heap.size (HV.out.below hb1) hb1.size HNN.out).mono ?_
        rintro e w2 ⟨v2, rfl, ho2, hb2⟩
        have hb12 := hb1.trans (hb2.mono hb1.size)
        have HQ := aside (hQ.out v2 w2 (ho2.lst (Nat.le_refl _)))
        clear ho2
        go_wp2_with fail
        refine HQ.out.mono ?_
        rintro e w3 ⟨v3, rfl, hl3, hb3⟩
        have hb13 := hb12.trans (hb3.mono hb12.size)
        have hb23 : Below w1.heap.size w1 w3 := hb2.trans (hb3.mono hb2.size)
        have HK := aside (keys_any v1 dd w3 w1.heap.size (HL1.out.below hb23) hb23.size (by rw [hrz.out]; exact HNN.out))
        obtain ⟨A3, c3, rfl, hc3, hm3, hx3⟩ := hl3
        have hz3 : (keysOf dd).size = d.size := (keysOf_size dd).trans hrz.out
        have HL3 : Aside (LstN w3 w3.heap.size (.slice A3 d.size c3) (keysOf dd)) := ⟨A3, c3, by rw [hz3], hc3, hm3, hx3⟩
        rw [hz3]
        rw [hz3] at hc3
        clear hx3 hQ HQ hP
        go_wp2_with fail
        refine HK.out.mono ?_
        rintro e w4 ⟨v4, rfl, ho4, hb4⟩
        have hb14 := hb13.trans (hb4.mono hb13.size)
        have HE := aside (equalN_same v4 _ (keysOf dd) w4 _ _ (ho4.lst (Nat.le_refl _)) (HL3.out.below hb4) (by rw [hz3]; exact HNN.out))
        clear ho4
        go_wp2_with fail
        refine HE.out.mono ?_
        rintro e w5 ⟨rfl, q5, rfl⟩
        go_wp2_with fail
        go_ret
        exact ⟨rfl, hb14.trans ((below_drewN w4 q5).mono hb14.size)⟩
  · have hR := itemRange_no A d.size c a b w hr
    unfold maxLen at hm
    generalize d.size = n at hc hR ⊢
    clear hr HV hA
    by_cases g1 : (2147483647 : Int) < (n : Int)
    · clear hR
      go_enter Try.func9, Try.ntmps9
      go_wp2_with fail
      go_ret
      exact ⟨rfl, Below.refl _ _⟩
    · go_enter Try.func9, Try.ntmps9
      go_wp2_with fail
      refine hR.mono ?_
      rintro e w' ⟨rfl, hw⟩
      obtain rfl : w = w' := hw.symm
      clear hR
      go_wp2_with fail
      go_ret
      exact ⟨rfl, Below.refl _ _⟩
end Go.Proofs.Ytaifmeajfldckaa
