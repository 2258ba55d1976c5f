/- sort's Reverse, impl.Backwards and spec.Fallen: an insertion sort by falling keys. Condition: at most 4096 items. -/
import Derived.Test.YtaifmeajfldckaaRev
import Derived.Test.YtaifmeajfldckaaStably
import Derived.Test.YtaifmeajfldckaaSpec
import Derived.Test.YtaifmeajfldckaaStab
namespace Go.Proofs.Ytaifmeajfldckaa
open Go.RowKit Go.Sort Go.Proofs

theorem Own.row3 {w : World} {base : Nat} {v : Value} {d : Array (Int × Int)} (h : Own w base v d) (hb : base ≤ w.heap.size) : ∃ blk, base ≤ blk ∧ w.heap.size ≠ blk ∧ Tn blk d w w ∧ ItemsVal blk d.size v ∧ Box blk d.size v := by
  rcases h with ⟨h0, rfl⟩ | ⟨g, c, rfl, hc, hm, hbg, hg, hH⟩
  · exact ⟨w.heap.size + 1, by omega, by omega, Tn.empty h0 w _, .inl ⟨h0, rfl⟩, none, 0, by rw [h0], by omega, by simp [maxLen], .inl h0⟩
  · exact ⟨g, hbg, by omega, Tn.start hH hg, .inr ⟨c, hc, rfl⟩, _, c, rfl, hc, hm, .inr rfl⟩

theorem reverse_any (T : TypeId) (rv : Value) (w : World) :
    Calls Try.prog 65 #[.iface T rv] w fun e w' => e = .returned (.iface 80 (.pointer (some ⟨w.heap.size, 0, none⟩))) ∧ w' = w.alloc (.cells #[.iface T rv] 82) := by
  go_enter Try.func65, Try.ntmps65
  go_wp2
  go_ret
  exact ⟨rfl, rfl⟩

set_option maxHeartbeats 1000000 in
theorem backwards_any (v : Value) (d : Array (Int × Int)) (w : World) (B : Nat) (hv : Lst w B v d) (hB0 : B ≤ w.heap.size) (hn : d.size ≤ 4096) :
    Calls Try.prog 36 #[v] w fun e w' => ∃ v', e = .returned v' ∧ Lst w' w'.heap.size v' (Pl.stable ltR d d.size) ∧ Below w.heap.size w w' := by
  obtain ⟨r, hr⟩ : ∃ r, Pl.stable ltR d d.size = r := ⟨_, rfl⟩
  have hrs : r.size ≤ 4096 := by rw [← hr, stable_size _ _ _]; exact hn
  have hrz : r.size = d.size := by rw [← hr, stable_size _ _ _]
  rw [hr]
  have HR := aside hr
  clear hr
  have hto := toSort_any v d w B hv hB0 hn
  go_enter Try.func36, Try.ntmps36
  go_wp2_with fail
  refine hto.mono ?_
  rintro e w1 ⟨v1, rfl, ho, hb1⟩
  obtain ⟨blk, hblk, hne, T1, hI, hX⟩ := ho.row3 hb1.size
  clear hto
  go_wp2_with fail
  refine (reverse_any _ v1 w1).mono ?_
  rintro e w2 ⟨rfl, hw2⟩
  have T2 := T1.alloc (.cells #[.iface 43 v1] 82)
  have hc : w2.cell? ⟨w1.heap.size, 0, none⟩ = some (.iface 43 v1) := by rw [hw2]; simp
  have hb2 : Below w.heap.size w w2 := by rw [hw2]; exact hb1.alloc hb1.size _
  rw [← hw2] at T2
  clear hw2
  have M := rev_meth (w0 := w2) hI (by omega) w1.heap.size hc hne
  have HC := aside (sStable_at (w := w2) M T2.self rfl)
  clear M hc
  go_wp2_with fail
  refine HC.out.mono ?_
  rw [HR.out]
  rintro e w3 ⟨rfl, T3, o3, -⟩
  have hL := T3.out.lst hrz hX (Nat.le_refl _)
  have hb3 := hb2.trans (T3.out.belowRow hblk hb2.size)
  have hof := ofSort_any v1 r w3 w3.heap.size hL (Nat.le_refl _) hrs
  clear T1 T2 hI hL ho
  go_wp2_with fail
  refine hof.mono ?_
  rintro e w4 ⟨v3, rfl, ho3, hb4⟩
  go_wp2_with fail
  go_ret
  exact ⟨_, rfl, ho3.lst (Nat.le_refl _), hb3.trans (hb4.mono hb3.size)⟩

set_option maxHeartbeats 8000000 in
set_option maxRecDepth 100000 in
theorem fallen_any (v : Value) (d : Array (Int × Int)) (w : World) (B : Nat) (hv : Lst w B v d) (hn : d.size ≤ 4096) :
    Calls Try.prog 37 #[v] w fun e w' => ∃ v', e = .returned v' ∧ Lst w' w'.heap.size v' (insertionSort ltR d 0 d.size) ∧ Below w.heap.size w w' := by
  have HV := aside hv
  obtain ⟨n, hnd⟩ : ∃ n, d.size = n := ⟨_, rfl⟩
  have HN := aside hnd
  rw [hnd] at hn
  clear hnd hv
  go_enter Try.func37, Try.ntmps37
  go_wp2_with fail
  refine (slicesClone_any v d w B HV.out (by rw [HN.out]; exact hn)).mono ?_
  rintro e w1 ⟨v1, rfl, blk, hbx, hblk, T1, hb1⟩
  rw [HN.out] at hbx
  have HB1 := aside hb1
  have HX := aside hbx
  obtain ⟨A1, c1, rfl, hc1, hm1, hA1⟩ := hbx
  clear hb1
  rcases hA1 with h0 | rfl
  · subst h0
    go_wp2_with fail
    go_rounds 1
    go_ret
    refine ⟨_, rfl, ?_, HB1.out⟩
    rw [HN.out, show insertionSort ltR d 0 0 = d from insOuter_stop _ _ _ _ (by omega)]
    exact T1.lst HN.out HX.out (Nat.le_refl _)
  · have AT1 := aside T1
    clear T1
    go_wp2_with fail
    go_loopw [10] (fun vi wr => ∃ (i : Nat) (dk : Array (Int × Int)), vi = .int .i64 i ∧ 0 ≤ i ∧ i ≤ n ∧ Aside (dk.size = n) ∧ Aside (Tn blk dk w1 wr) ∧ Aside (insOuter ltR 0 n i dk = insOuter ltR 0 n 0 d)) (fun vi _ => n - (intOf vi).toNat)
    case atStart => exact ⟨0, d, rfl, Nat.le_refl _, Nat.zero_le _, HN.out, AT1, rfl⟩
    case round =>
      obtain ⟨i, dk, rfl, hai, hib, hsk, hT, hO⟩ := hrel
      by_cases hlt : i < n
      · go_wp2_with fail
        go_loopw [5] (fun vj wr2 => ∃ (j : Nat) (dj : Array (Int × Int)), vj = .int .i64 j ∧ 0 ≤ j ∧ j ≤ i ∧ Aside (dj.size = n) ∧ Aside (Tn blk dj w1 wr2) ∧ Aside (insInner ltR 0 j dj = insInner ltR 0 i dk)) (fun vj _ => (intOf vj).toNat)
        case atStart => exact ⟨i, dk, rfl, by omega, Nat.le_refl _, hsk, hT, rfl⟩
        case round =>
          obtain ⟨j, dj, rfl, haj, hji, hsj, hTj, hI⟩ := hrel
          by_cases hja : 0 < j
          · obtain ⟨m, rfl⟩ : ∃ m, j = m + 1 := ⟨j - 1, by omega⟩
            have c0 := hTj.out.c0 (i := m) (by rw [hsj.out]; omega)
            have c1' := hTj.out.c0 (i := m + 1) (by rw [hsj.out]; omega)
            obtain ⟨x0, ex⟩ : ∃ x0, dj[m]!.1 = x0 := ⟨_, rfl⟩
            obtain ⟨y0, ey⟩ : ∃ y0, dj[m + 1]!.1 = y0 := ⟨_, rfl⟩
            have HL : Aside (ltR dj[m + 1]! dj[m]! = decide (x0 < y0)) := by unfold ltR; rw [ex, ey]; exact rfl
            rw [ex] at c0
            rw [ey] at c1'
            clear ex ey
            have g1 : (0 : Int) < (m : Int) + 1 := by omega
            have g2 : ((m : Int) + 1).toNat = m + 1 := by omega
            have g3 : (m : Int) + 1 < (n : Int) := by omega
            by_cases hxy : x0 < y0
            · go_wp2_with fail
              go_quiet (fail)
              have T2 := hTj.out.drewN nq
              generalize wr.drewN nq = wd at T2 ⊢
              clear c0 c1'
              obtain ⟨X0, X1, Y0, Y1, ex, ey, a0, a1, b0, b1, p0, p1, q0, q1, ⟨u1, e1⟩, ⟨u4, e4⟩, ⟨u6, e6⟩, S⟩ := exch T2 m (m + 1) (by rw [hsj.out]; omega) (by rw [hsj.out]; omega)
              have S1 := aside S
              clear ex ey S T2
              go_wp2_with fail
              go_region
              clear e1 e4 e6 a0 a1 b0 b1 p0 p1 q0 q1
              go_wp2_with fail
              go_roundw
              case rel =>
                refine ⟨m, swp dj m (m + 1), by congr 1, by omega, by omega, (size_swp _ _ _).trans hsj.out, S1.out 1, ?_⟩
                rw [swp_comm' _ _ _ (by rw [hsj.out]; omega) (by rw [hsj.out]; omega), ← hI.out, insInner_go 0 (m + 1) dj hja (by rw [show m + 1 - 1 = m from rfl, HL.out]; exact decide_eq_true hxy)]
                exact rfl
              case measure => simp [intOf]
            · go_wp2_with fail
              go_quiet (fail)
              go_wp2_with fail
              go_roundw
              case rel => exact ⟨i + 1, dj, by go_num, by omega, by omega, hsj.out, hTj.out.drewN nq, by rw [← hO.out, insOuter_go 0 n i dk hlt, ← hI.out, insInner_stop 0 (m + 1) dj (Or.inr (by rw [show m + 1 - 1 = m from rfl, HL.out]; exact decide_eq_false (by omega)))]; exact rfl⟩
              case measure => simp [intOf]; omega
          · have hd : decide ((0 : Int) < (j : Int)) = false := decide_eq_false (by omega)
            go_wp2_with fail
            go_quiet (fail)
            go_wp2_with fail
            go_roundw
            case rel => exact ⟨i + 1, dj, by go_num, by omega, by omega, hsj.out, hTj.out.drewN nq, by rw [← hO.out, insOuter_go 0 n i dk hlt, ← hI.out, insInner_stop 0 j dj (Or.inl (by omega))]; exact rfl⟩
            case measure => simp [intOf]; omega
      · go_wp2_with fail
        go_ret
        refine ⟨_, rfl, ?_, HB1.out.trans (hT.out.belowRow hblk HB1.out.size)⟩
        rw [HN.out, show insertionSort ltR d 0 n = dk from by
          rw [insertionSort, ← insOuter_start, ← hO.out, insOuter_stop (lt := ltR) 0 n i dk hlt]]
        exact hT.out.lst hsk.out HX.out (Nat.le_refl _)
end Go.Proofs.Ytaifmeajfldckaa
