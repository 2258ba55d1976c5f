/- The walk of the law FnPartition: behind a partition what is less than the pivot is ahead of it, and the rest is behind it. It returns true for every input, and leaves all that lay there as it was. No condition. -/
import Derived.Test.YtaifmeajfldckaaWPart
import Derived.Test.YtaifmeajfldckaaSame2
namespace Go.Proofs.Ytaifmeajfldckaa
open Go.RowKit Go.Sort Go.Proofs

set_option maxHeartbeats 8000000 in
set_option maxRecDepth 100000 in
theorem lawFnPartition (v : Value) (d : Array (Int × Int)) (w : World) (hv : Lst w w.heap.size v d) (a : Int) (b : Int) (p : Int) (_wa : (Lit.int .i64 a).wf = true) (_wb : (Lit.int .i64 b).wf = true) (_wp : (Lit.int .i64 p).wf = true) :
    Calls Try.prog 6 #[v, .int .i64 a, .int .i64 b, .int .i64 p] w fun e w' => e = .returned (.bool true) ∧ Below w.heap.size w w' := by
  have HV := aside hv
  obtain ⟨A, c, rfl, hc, hm, hA⟩ := hv
  by_cases hr : 0 ≤ a ∧ a ≤ b ∧ b ≤ d.size ∧ d.size ≤ 4096
  · obtain ⟨h1, h2, h3, hn⟩ := hr
    obtain ⟨a, rfl⟩ := Int.eq_ofNat_of_zero_le h1
    obtain ⟨b, rfl⟩ := Int.eq_ofNat_of_zero_le (Int.le_trans h1 h2)
    have hab : a ≤ b := by omega
    have hbn : b ≤ d.size := by omega
    have hR := itemRange_yes A d.size c a b w h1 h2 h3 hn
    have g1 : ¬ (2147483647 : Int) < (d.size : Int) := by omega
    clear h1 h2 h3
    by_cases hpa : p < (a : Int)
    · clear hA
      go_enter Try.func6, Try.ntmps6
      go_wp2_with fail
      refine hR.mono ?_
      rintro e w' ⟨rfl, hw⟩
      obtain rfl : w = w' := hw.symm
      clear hR
      go_wp2_with fail
      go_ret
      exact ⟨rfl, Below.refl _ _⟩
    · by_cases hpb : p ≥ (b : Int)
      · clear hA
        go_enter Try.func6, Try.ntmps6
        go_wp2_with fail
        refine hR.mono ?_
        rintro e w' ⟨rfl, hw⟩
        obtain rfl : w = w' := hw.symm
        clear hR
        go_wp2_with fail
        go_ret
        exact ⟨rfl, Below.refl _ _⟩
      · obtain ⟨p, rfl⟩ := Int.eq_ofNat_of_zero_le (show 0 ≤ p by omega)
        have hap' : a ≤ p := by omega
        have hpb' : p < b := by omega
        obtain ⟨g0, o0, rfl, hg0, hcell⟩ : ∃ b off, A = some ⟨b, off, none⟩ ∧ b < w.heap.size ∧ ∀ i, i < d.size → w.cell? ⟨b, off + i * 2, none⟩ = some (.int .i64 d[i]!.1) ∧ w.cell? ⟨b, off + i * 2 + 1, none⟩ = some (.int .i64 d[i]!.2) := by
          rcases hA with h | h
          · omega
          · exact h
        have CD : Aside (∀ wx, Below w.heap.size w wx → wx.cell? ⟨g0, o0 + p * 2, none⟩ = some (.int .i64 d[p]!.1) ∧ wx.cell? ⟨g0, o0 + p * 2 + 1, none⟩ = some (.int .i64 d[p]!.2)) := fun wx hx =>
          ⟨(hx.cell (p := ⟨g0, o0 + p * 2, none⟩) hg0).trans (hcell p (by omega)).1, (hx.cell (p := ⟨g0, o0 + p * 2 + 1, none⟩) hg0).trans (hcell p (by omega)).2⟩
        clear hA hcell
        obtain ⟨q1, q2, q3, q4, q5⟩ := partition_holds ltK swoK d a b p hap' hpb' hbn
        have ep := part_pivot ltK d a b p hap' hpb' hbn
        have hP := iPart_any _ d w w.heap.size HV.out (Nat.le_refl _) hn a b p hap' hpb' hbn
        generalize partition ltK d a b p = r at q1 q2 q3 q4 q5 ep hP
        obtain ⟨q, fl, dd⟩ := r
        simp only at q1 q2 q3 q4 q5 ep hP
        have hqn : q < d.size := by omega
        have HL : Aside (∀ i, a ≤ i → i < q → dd[i]!.1 < d[p]!.1) := fun i h1 h2 => by
          have := q4 i h1 h2; rw [ep] at this; simpa [ltK] using this
        have HG : Aside (∀ i, q < i → i < b → ¬ dd[i]!.1 < d[p]!.1) := fun i h1 h2 => by
          have := q5 i h1 h2; rw [ep] at this; simpa [ltK] using this
        have EP := aside ep
        have HP := aside hP
        have hsz : Aside (dd.size = d.size) := q3.1
        have Q3 := aside q3
        have HNN := aside hn
        clear q4 q5 ep hP q3
        go_enter Try.func6, Try.ntmps6
        go_wp2_with fail
        refine hR.mono ?_
        rintro e w' ⟨rfl, hw⟩
        obtain rfl : w = w' := hw.symm
        clear hR
        go_wp2_with fail
        refine HP.out.mono ?_
        rintro e w1 ⟨v1, rfl, hl1, hb1⟩
        have HL1 := aside hl1
        have hb1 := aside hb1
        obtain ⟨A1, c1, rfl, hc1, hm1, hA1⟩ := hl1
        rw [hsz.out] at hc1 hA1 ⊢
        obtain ⟨g3, o3, rfl, hg3, hcell⟩ : ∃ b off, A1 = some ⟨b, off, none⟩ ∧ b < w1.heap.size ∧ ∀ i, i < d.size → w1.cell? ⟨b, off + i * 2, none⟩ = some (.int .i64 dd[i]!.1) ∧ w1.cell? ⟨b, off + i * 2 + 1, none⟩ = some (.int .i64 dd[i]!.2) := by
          rcases hA1 with h | h
          · omega
          · exact h
        have CG : Aside (∀ wx, Below w1.heap.size w1 wx → ∀ i, i < d.size → wx.cell? ⟨g3, o3 + i * 2, none⟩ = some (.int .i64 dd[i]!.1) ∧ wx.cell? ⟨g3, o3 + i * 2 + 1, none⟩ = some (.int .i64 dd[i]!.2)) := fun wx hx i hi =>
          ⟨(hx.cell (p := ⟨g3, o3 + i * 2, none⟩) hg3).trans (hcell i hi).1, (hx.cell (p := ⟨g3, o3 + i * 2 + 1, none⟩) hg3).trans (hcell i hi).2⟩
        have SI : Aside (∀ wx, Below w1.heap.size w1 wx → Calls Try.prog 28 #[.slice (some ⟨g3, o3, none⟩) d.size c1, .slice (some ⟨g0, o0, none⟩) d.size c, .int .i64 a, .int .i64 b] wx fun e w' => e = .returned (.bool true) ∧ Aside (Below w1.heap.size w1 w')) := by
          intro wx hx
          have h1 := HL1.out
          rw [hsz.out] at h1
          exact (sameItems_any _ _ dd d wx _ _ (h1.below hx) (HV.out.below (hb1.out.trans (hx.mono hb1.out.size))) hx.size (Nat.le_trans hb1.out.size hx.size) HNN.out a b hab hbn Q3.out).mono fun e w' ⟨h1, h2⟩ => ⟨h1, hx.trans (h2.mono hx.size)⟩
        clear hA1 hcell HP
        have z1 : decide ((q : Int) < (a : Int)) = false := decide_eq_false (by omega)
        have z2 : decide ((q : Int) ≥ (b : Int)) = false := decide_eq_false (by omega)
        have z2' : decide ((b : Int) ≤ (q : Int)) = false := decide_eq_false (by omega)
        have z3 : (q : Int) < (d.size : Int) := by omega
        have z4 : (p : Int) < (d.size : Int) := by omega
        go_upto_region 6 with (fail)
        go_cut [66] from 40 to 65 (fun v wx => v = .bool false ∧ Aside (Below w1.heap.size w1 wx))
        case first =>
          refine wp_region_any (by kernel_rfl) ?_
          change wpAny _ _ _ _ _ _ _ (World.drew _)
          refine wpAny_take2 (i := 0) (v := ?_) rfl (by kernel_rfl) (by kernel_rfl) (by kernel_rfl) (fun _ _ _ h => h) (Or.inl ⟨by rfl, ?_⟩) ?_
          rotate_left
          · intro w'; go_simp; try with_reducible rfl
          intro K hK; go_simp; refine hK _ ?_; clear hK K
          refine wpAny_take2 (i := 1) (v := ?_) rfl (by kernel_rfl) (by kernel_rfl) (by kernel_rfl) (fun _ _ _ h => h) (Or.inl ⟨by rfl, ?_⟩) ?_
          rotate_left
          · intro w'; go_simp; try with_reducible rfl
          intro K hK; go_simp; refine hK _ ?_; clear hK K
          refine wpAny_take2 (i := 2) (v := ?_) rfl (by kernel_rfl) (by kernel_rfl) (by kernel_rfl) (fun _ _ _ h => h) (Or.inl ⟨by rfl, ?_⟩) ?_
          rotate_left
          · intro w'; go_simp; try with_reducible rfl
          intro K hK; go_simp; refine hK _ ?_; clear hK K
          refine wpAny_take2 (i := 3) (v := ?_) rfl (by kernel_rfl) (by kernel_rfl) (by kernel_rfl) (fun _ _ _ h => h) (Or.inl ⟨by rfl, ?_⟩) ?_
          rotate_left
          · intro w'; go_simp; try with_reducible rfl
          intro K hK; go_simp; refine hK _ ?_; clear hK K
          refine wpAny_ready (rs := [4]) (by kernel_rfl) (by simp) (AllReady.cons rfl (fun K hK => ?_) AllReady.nil)
          go_simp
          refine (SI.out _ ?_).mono ?_
          · exact below_drewN w1 1
          rintro e w2 ⟨rfl, hb2⟩
          go_simp
          refine hK _ _ ?_
          clear hK K
          refine wpAny_take2 (i := 5) (v := ?_) rfl (by kernel_rfl) (by kernel_rfl) (by kernel_rfl) (fun _ _ _ h => h) (Or.inl ⟨by rfl, ?_⟩) ?_
          rotate_left
          · intro w'; go_simp; try with_reducible rfl
          intro K hK; go_simp; refine hK _ ?_; clear hK K
          refine wpAny_take2 (i := 6) (v := ?_) rfl (by kernel_rfl) (by kernel_rfl) (by kernel_rfl) (fun _ _ _ h => h) (Or.inl ⟨by rfl, ?_⟩) ?_
          rotate_left
          · intro w'; go_simp; try with_reducible rfl
          intro K hK; go_simp; refine hK _ ?_; clear hK K
          refine wpAny_take2 (i := 7) (v := ?_) rfl (by kernel_rfl) (by kernel_rfl) (by kernel_rfl) (fun _ _ _ h => h) (Or.inl ⟨by rfl, ?_⟩) ?_
          rotate_left
          · intro w'; go_simp; try with_reducible rfl
          intro K hK; go_simp; refine hK _ ?_; clear hK K
          refine wpAny_take2 (i := 8) (v := ?_) rfl (by kernel_rfl) (by kernel_rfl) (by kernel_rfl) (fun _ _ _ h => h) (Or.inl ⟨by rfl, ?_⟩) ?_
          rotate_left
          · intro w'; go_simp; try with_reducible rfl
          intro K hK; go_simp; refine hK _ ?_; clear hK K
          refine wpAny_take2 (i := 9) (v := .bool false) rfl (by kernel_rfl) (by kernel_rfl) (by kernel_rfl) (fun _ _ _ h => h) (Or.inl ⟨by rfl, ?_⟩) ?_
          · intro w'; go_simp; try with_reducible rfl
          intro K hK; go_simp; refine hK _ ?_; clear hK K
          refine wpAny_take2 (i := 10) (v := ?_) rfl (by kernel_rfl) (by kernel_rfl) (by kernel_rfl) (fun _ _ _ h => h) (Or.inl ⟨by rfl, ?_⟩) ?_
          rotate_left
          · intro w'; go_simp; try with_reducible rfl
          intro K hK; go_simp; refine hK _ ?_; clear hK K
          refine wpAny_take2 (i := 11) (v := ?_) rfl (by kernel_rfl) (by kernel_rfl) (by kernel_rfl) (fun _ _ _ h => h) (Or.inl ⟨by rfl, ?_⟩) ?_
          rotate_left
          · intro w'; go_simp; try with_reducible rfl
          intro K hK; go_simp; refine hK _ ?_; clear hK K
          refine wpAny_take2 (i := 12) (v := ?_) rfl (by kernel_rfl) (by kernel_rfl) (by kernel_rfl) (fun _ _ _ h => h) (Or.inl ⟨by rfl, ?_⟩) ?_
          rotate_left
          · intro w'; go_simp; try with_reducible rfl
          intro K hK; go_simp; refine hK _ ?_; clear hK K
          refine wpAny_take2 (i := 13) (v := ?_) rfl (by kernel_rfl) (by kernel_rfl) (by kernel_rfl) (fun _ _ _ h => h) (Or.inl ⟨by rfl, ?_⟩) ?_
          rotate_left
          · intro w'; go_simp; try with_reducible rfl
          intro K hK; go_simp; refine hK _ ?_; clear hK K
          refine wpAny_take2 (i := 14) (v := .bool false) rfl (by kernel_rfl) (by kernel_rfl) (by kernel_rfl) (fun _ _ _ h => h) (Or.inl ⟨by rfl, ?_⟩) ?_
          · intro w'; go_simp; try with_reducible rfl
          intro K hK; go_simp; refine hK _ ?_; clear hK K
          refine wpAny_take2 (i := 15) (v := ?_) rfl (by kernel_rfl) (by kernel_rfl) (by kernel_rfl) (fun _ _ _ h => h) (Or.inl ⟨by rfl, ?_⟩) ?_
          rotate_left
          · intro w'; go_simp; try with_reducible rfl
          intro K hK; go_simp; refine hK _ ?_; clear hK K
          refine wpAny_take2 (i := 16) (v := ?_) rfl (by kernel_rfl) (by kernel_rfl) (by kernel_rfl) (fun _ _ _ h => h) (Or.inl ⟨by rfl, ?_⟩) ?_
          rotate_left
          · intro w'; go_simp; try with_reducible rfl
          intro K hK; go_simp; refine hK _ ?_; clear hK K
          refine wpAny_take2 (i := 17) (v := ?_) rfl (by kernel_rfl) (by kernel_rfl) (by kernel_rfl) (fun _ _ _ h => h) (Or.inl ⟨by rfl, ?_⟩) ?_
          rotate_left
          · intro w'; go_simp; try with_reducible rfl
          intro K hK; go_simp; refine hK _ ?_; clear hK K
          refine wpAny_take2 (i := 18) (v := ?_) rfl (by kernel_rfl) (by kernel_rfl) (by kernel_rfl) (fun _ _ _ h => h) (Or.inl ⟨by rfl, ?_⟩) ?_
          rotate_left
          · intro w'; go_simp; try with_reducible rfl
          intro K hK; go_simp; refine hK _ ?_; clear hK K
          refine wpAny_take2 (i := 19) (v := ?_) rfl (by kernel_rfl) (by kernel_rfl) (by kernel_rfl) (fun _ _ _ h => h) (Or.inl ⟨by rfl, ?_⟩) ?_
          rotate_left
          · intro w'; go_simp; try with_reducible rfl
          intro K hK; go_simp; refine hK _ ?_; clear hK K
          refine wpAny_take2 (i := 21) (v := ?_) rfl (by kernel_rfl) (by kernel_rfl) (by kernel_rfl) (fun _ _ _ h => h) (Or.inl ⟨by rfl, ?_⟩) ?_
          rotate_left
          · intro w'; go_simp; try with_reducible rfl
          intro K hK; go_simp; refine hK _ ?_; clear hK K
          refine wpAny_take2 (i := 22) (v := ?_) rfl (by kernel_rfl) (by kernel_rfl) (by kernel_rfl) (fun _ _ _ h => h) (Or.inl ⟨by rfl, ?_⟩) ?_
          rotate_left
          · intro w'; go_simp; try with_reducible rfl
          intro K hK; go_simp; refine hK _ ?_; clear hK K
          refine wpAny_take2 (i := 23) (v := ?_) rfl (by kernel_rfl) (by kernel_rfl) (by kernel_rfl) (fun _ _ _ h => h) (Or.inl ⟨by rfl, ?_⟩) ?_
          rotate_left
          · intro w'; go_simp; try with_reducible rfl
          intro K hK; go_simp; refine hK _ ?_; clear hK K
          obtain ⟨y0c, y1c⟩ := CG.out w2 hb2.out q hqn
          rw [EP.out] at y0c y1c
          obtain ⟨x0c, x1c⟩ := CD.out w2 (hb1.out.trans (hb2.out.mono hb1.out.size))
          have hne := items_same
          generalize d[p]!.1 = x0 at y0c x0c
          generalize d[p]!.2 = x1 at y1c x1c
          have hZ := aside (hb1.out.trans (hb2.out.mono hb1.out.size))
          refine wpAny_ready (rs := [20, 24]) (by kernel_rfl) (by simp) (AllReady.cons rfl (fun K hK => ?_) (AllReady.cons rfl (fun K hK => ?_) AllReady.nil))
          · go_simp
            refine hK _ _ ?_
            clear hK K
            refine wpAny_ready (rs := [24]) (by kernel_rfl) (by simp) (AllReady.cons rfl (fun K hK => ?_) AllReady.nil)
            go_simp
            refine hK _ _ ?_
            clear hK K
            refine wpAny_take2 (i := 25) (v := ?_) rfl (by kernel_rfl) (by kernel_rfl) (by kernel_rfl) (fun _ _ _ h => h) (Or.inl ⟨by rfl, ?_⟩) ?_
            rotate_left
            · intro w'; go_simp; try with_reducible rfl
            intro K hK; go_simp; refine hK _ ?_; clear hK K
            refine wpAny_take2 (i := 26) (v := ?_) rfl (by kernel_rfl) (by kernel_rfl) (by kernel_rfl) (fun _ _ _ h => h) (Or.inl ⟨by rfl, ?_⟩) ?_
            rotate_left
            · intro w'; go_simp; try with_reducible rfl
            intro K hK; go_simp; refine hK _ ?_; clear hK K
            refine wpAny_done (by kernel_rfl) ?_ _
            go_wp2_with fail
            go_meet
            case rel => exact ⟨rfl, hb2⟩
          · go_simp
            refine hK _ _ ?_
            clear hK K
            refine wpAny_ready (rs := [20]) (by kernel_rfl) (by simp) (AllReady.cons rfl (fun K hK => ?_) AllReady.nil)
            go_simp
            refine hK _ _ ?_
            clear hK K
            refine wpAny_take2 (i := 25) (v := ?_) rfl (by kernel_rfl) (by kernel_rfl) (by kernel_rfl) (fun _ _ _ h => h) (Or.inl ⟨by rfl, ?_⟩) ?_
            rotate_left
            · intro w'; go_simp; try with_reducible rfl
            intro K hK; go_simp; refine hK _ ?_; clear hK K
            refine wpAny_take2 (i := 26) (v := ?_) rfl (by kernel_rfl) (by kernel_rfl) (by kernel_rfl) (fun _ _ _ h => h) (Or.inl ⟨by rfl, ?_⟩) ?_
            rotate_left
            · intro w'; go_simp; try with_reducible rfl
            intro K hK; go_simp; refine hK _ ?_; clear hK K
            refine wpAny_done (by kernel_rfl) ?_ _
            go_wp2_with fail
            go_meet
            case rel => exact ⟨rfl, hb2⟩
        case rest =>
          obtain ⟨rfl, hb2⟩ := hcut
          go_wp2_with fail
          go_loopw [12] (fun vi wr => ∃ i : Nat, vi = .int .i64 i ∧ a ≤ i ∧ i ≤ b ∧ Aside (Below w1.heap.size w1 wr)) (fun vi _ => b - (intOf vi).toNat)
          case atStart => exact ⟨a, rfl, Nat.le_refl _, hab, hb2⟩
          case round =>
            obtain ⟨i, rfl, hai, hib, hbr⟩ := hrel
            by_cases hlt : i < b
            · obtain ⟨y0c, -⟩ := CG.out wr hbr.out i (by omega)
              obtain ⟨x0c, -⟩ := CD.out wr (hb1.out.trans (hbr.out.mono hb1.out.size))
              have z5 : (i : Int) < (d.size : Int) := by omega
              have hnx : Aside (∀ nq, Below w1.heap.size w1 (wr.drewN nq)) := fun nq => hbr.out.trans ((below_drewN wr nq).mono hbr.out.size)
              by_cases h1 : i < q
              · have hk := HL.out i hai h1
                generalize dd[i]!.1 = y0 at y0c hk
                generalize d[p]!.1 = x0 at x0c hk
                have d1 : (i : Int) < (q : Int) := by omega
                have d3 : decide (q < i) = false := decide_eq_false (by omega)
                have d4 : decide (y0 ≥ x0) = false := decide_eq_false (by omega)
                have d5 : decide (x0 ≤ y0) = false := decide_eq_false (by omega)
                go_wp2_with fail
                go_quiet (fail)
                go_wp2_with fail
                go_roundw
                case rel => exact ⟨i + 1, by go_num, by omega, by omega, hnx.out _⟩
                case measure => simp [intOf]; omega
              · by_cases h2 : q < i
                · have hk := HG.out i h2 hlt
                  generalize dd[i]!.1 = y0 at y0c hk
                  generalize d[p]!.1 = x0 at x0c hk
                  have d1 : decide (i < q) = false := decide_eq_false (by omega)
                  have d2 : (q : Int) < (i : Int) := by omega
                  have d4 : decide (y0 < x0) = false := decide_eq_false (by omega)
                  go_wp2_with fail
                  go_quiet (fail)
                  go_wp2_with fail
                  go_roundw
                  case rel => exact ⟨i + 1, by go_num, by omega, by omega, hnx.out _⟩
                  case measure => simp [intOf]; omega
                · have d1 : decide (i < q) = false := decide_eq_false (by omega)
                  have d3 : decide (q < i) = false := decide_eq_false (by omega)
                  clear y0c x0c
                  go_wp2_with fail
                  go_quiet (fail)
                  go_wp2_with fail
                  go_roundw
                  case rel => exact ⟨i + 1, by go_num, by omega, by omega, hnx.out _⟩
                  case measure => simp [intOf]; omega
            · go_wp2_with fail
              go_ret
              exact ⟨rfl, hb1.out.trans (hbr.out.mono hb1.out.size)⟩
  · have hR := itemRange_no A d.size c a b w hr
    unfold maxLen at hm
    generalize d.size = n at hc hR ⊢
    clear hr HV hA
    by_cases g1 : (2147483647 : Int) < (n : Int)
    · clear hR
      go_enter Try.func6, Try.ntmps6
      go_wp2_with fail
      go_ret
      exact ⟨rfl, Below.refl _ _⟩
    · go_enter Try.func6, Try.ntmps6
      go_wp2_with fail
      refine hR.mono ?_
      rintro e w' ⟨rfl, hw⟩
      obtain rfl : w = w' := hw.symm
      clear hR
      go_wp2_with fail
      go_ret
      exact ⟨rfl, Below.refl _ _⟩
end Go.Proofs.Ytaifmeajfldckaa
