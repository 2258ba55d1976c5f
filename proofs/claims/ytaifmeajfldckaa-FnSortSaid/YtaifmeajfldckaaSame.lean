/- spec.less, spec.full and spec.SameItems: of a list and one that holds the same items in a range in any order SameItems says true. Condition: at most 4096 items, 0 <= a <= b <= n. -/
import Derived.Test.YtaifmeajfldckaaCut
import Derived.Test.YtaifmeajfldckaaStab
import Derived.StillTailTactics
namespace Go.Proofs.Ytaifmeajfldckaa
open Go.RowKit Go.Sort Go.Proofs

/-- By keys, then by marks. -/
def ltF (x y : Int × Int) : Bool := decide (x.1 < y.1) || (decide (x.1 = y.1) && decide (x.2 < y.2))
theorem swoF : SWO ltF where
  irrefl x := by simp [ltF]
  trans x y z h1 h2 := by simp [ltF] at *; omega
  ntrans x y z h1 h2 := by simp [ltF] at *; omega
theorem antiF (x y : Int × Int) (h1 : ltF x y = false) (h2 : ltF y x = false) : x = y := by
  obtain ⟨x0, x1⟩ := x
  obtain ⟨y0, y1⟩ := y
  simp [ltF] at *
  omega

theorem same_full {a b : Nat} {d d' : Array (Int × Int)} (h : PermIn a b d d') (hab : a ≤ b) (hb : b ≤ d.size) : insertionSort ltF d' a b = insertionSort ltF d a b := by
  have p1 := insertionSort_holds swoF d a b hab hb
  have p2 := insertionSort_holds swoF d' a b hab (by rw [h.1]; exact hb)
  generalize insertionSort ltF d a b = r1 at p1
  generalize insertionSort ltF d' a b = r2 at p2
  obtain ⟨⟨s1, o1, q1⟩, t1⟩ := p1
  obtain ⟨⟨s2, o2, q2⟩, t2⟩ := p2
  obtain ⟨s0, o0, q0⟩ := h
  have hw : ∀ r : Array (Int × Int), r.size = d.size → SortedIn ltF a b r → (r.extract a b).toList.Pairwise (fun x y => (!ltF y x) = true) := by
    intro r hr hs
    rw [List.pairwise_iff_getElem]
    intro i j hi hj hij
    have hj' : j < b - a := by simp at hj; omega
    have := hs (a + i) (a + j) (by omega) (by omega) (by omega)
    rw [getElem!_pos r _ (by omega), getElem!_pos r _ (by omega)] at this
    simpa using this
  have he : (r2.extract a b).toList = (r1.extract a b).toList := by
    refine List.Perm.eq_of_pairwise (le := fun x y => (!ltF y x) = true) ?_ (hw r2 (s2.trans s0) t2) (hw r1 s1 t1) (q2.trans (q0.trans q1.symm))
    intro x y _ _ h1 h2
    simp only [Bool.not_eq_true'] at h1 h2
    exact antiF x y h2 h1
  have he' : r2.extract a b = r1.extract a b := Array.toList_inj.1 he
  apply Array.ext (by rw [s2, s0, s1])
  intro i p1 p2
  have : r2[i]! = r1[i]! := by
    by_cases c : a ≤ i ∧ i < b
    · have e1 := extract_get! r1 (i := a) (j := b) (k := i - a) (by omega) (by omega)
      have e2 := extract_get! r2 (i := a) (j := b) (k := i - a) (by omega) (by omega)
      rw [show a + (i - a) = i by omega] at e1 e2
      rw [← e1, ← e2, he']
    · rw [o2 i (by omega), o1 i (by omega), o0 i (by omega)]
  rwa [getElem!_pos r2 i p1, getElem!_pos r1 i p2] at this

set_option maxHeartbeats 1000000 in
theorem less_any (x0 x1 y0 y1 : Int) (w : World) :
    Calls Try.prog 79 #[.agg #[.int .i64 x0, .int .i64 x1], .agg #[.int .i64 y0, .int .i64 y1]] w fun e w' => e = .returned (.bool (ltF (x0, x1) (y0, y1))) ∧ ∃ o1 o2, w' = (w.alloc o1).alloc o2 := by
  have hz : Try.prog.info? 27 = Try.prog.info? 27 := rfl
  clear hz
  by_cases h1 : x0 < y0
  · rw [show ltF (x0, x1) (y0, y1) = true by simp [ltF]; omega]
    go_enter Try.func79, Try.ntmps79
    go_wp2
    go_ret
    exact ⟨rfl, _, _, rfl⟩
  · by_cases h2 : x0 = y0
    · by_cases h3 : x1 < y1
      · rw [show ltF (x0, x1) (y0, y1) = true by simp [ltF]; omega]
        go_enter Try.func79, Try.ntmps79
        go_wp2
        go_ret
        exact ⟨rfl, _, _, rfl⟩
      · rw [show ltF (x0, x1) (y0, y1) = false by simp [ltF]; omega]
        go_enter Try.func79, Try.ntmps79
        go_wp2
        go_ret
        exact ⟨rfl, _, _, rfl⟩
    · rw [show ltF (x0, x1) (y0, y1) = false by simp [ltF]; omega]
      go_enter Try.func79, Try.ntmps79
      go_wp2
      go_ret
      exact ⟨rfl, _, _, rfl⟩

set_option maxHeartbeats 8000000 in
set_option maxRecDepth 100000 in
theorem full_any (v : Value) (d : Array (Int × Int)) (w : World) (B : Nat) (hv : Lst w B v d) (hn : d.size ≤ 4096) (a b : Nat) (hab : a ≤ b) (hb : b ≤ d.size) :
    Calls Try.prog 56 #[v, .int .i64 a, .int .i64 b] w fun e w' => ∃ v', e = .returned v' ∧ Lst w' w'.heap.size v' (insertionSort ltF d a b) ∧ Below w.heap.size w w' := by
  have HV := aside hv
  obtain ⟨n, hnd⟩ : ∃ n, d.size = n := ⟨_, rfl⟩
  have HN := aside hnd
  rw [hnd] at hn hb
  clear hnd hv
  go_enter Try.func56, Try.ntmps56
  go_wp2_with fail
  refine (slicesClone_any v d w B HV.out (by rw [HN.out]; exact hn)).mono ?_
  rintro e w1 ⟨v1, rfl, blk, hbx, hblk, T1, hb1⟩
  rw [HN.out] at hbx
  have HB1 := aside hb1
  have HX := aside hbx
  obtain ⟨A1, c1, rfl, hc1, hm1, hA1⟩ := hbx
  clear hb1
  rcases hA1 with h0 | rfl
  · subst h0
    obtain rfl : b = 0 := by omega
    obtain rfl : a = 0 := by omega
    go_wp2_with fail
    go_rounds 1
    go_ret
    refine ⟨_, rfl, ?_, HB1.out⟩
    rw [show insertionSort ltF d 0 0 = d from insOuter_stop _ _ _ _ (by omega)]
    exact T1.lst HN.out HX.out (Nat.le_refl _)
  · have AT1 := aside T1
    clear T1
    go_wp2_with fail
    go_loopw [8] (fun vi wr => ∃ (i : Nat) (dk : Array (Int × Int)), vi = .int .i64 i ∧ a ≤ i ∧ i ≤ b ∧ Aside (dk.size = n) ∧ Aside (Tn blk dk w1 wr) ∧ Aside (insOuter ltF a b i dk = insOuter ltF a b a d)) (fun vi _ => b - (intOf vi).toNat)
    case atStart => exact ⟨a, d, rfl, Nat.le_refl _, hab, HN.out, AT1, rfl⟩
    case round =>
      obtain ⟨i, dk, rfl, hai, hib, hsk, hT, hO⟩ := hrel
      by_cases hlt : i < b
      · go_wp2_with fail
        go_loopw [9] (fun vj wr2 => ∃ (j : Nat) (dj : Array (Int × Int)), vj = .int .i64 j ∧ a ≤ j ∧ j ≤ i ∧ Aside (dj.size = n) ∧ Aside (Tn blk dj w1 wr2) ∧ Aside (insInner ltF a j dj = insInner ltF a i dk)) (fun vj _ => (intOf vj).toNat)
        case atStart => exact ⟨i, dk, rfl, by omega, Nat.le_refl _, hsk, hT, rfl⟩
        case round =>
          obtain ⟨j, dj, rfl, haj, hji, hsj, hTj, hI⟩ := hrel
          by_cases hja : a < j
          · obtain ⟨m, rfl⟩ : ∃ m, j = m + 1 := ⟨j - 1, by omega⟩
            have c0 := hTj.out.c0 (i := m) (by rw [hsj.out]; omega)
            have c1' := hTj.out.c0 (i := m + 1) (by rw [hsj.out]; omega)
            have c2 := hTj.out.c1 (i := m) (by rw [hsj.out]; omega)
            have c3 := hTj.out.c1 (i := m + 1) (by rw [hsj.out]; omega)
            obtain ⟨x0, x1, ex⟩ : ∃ x0 x1, dj[m]! = (x0, x1) := ⟨_, _, rfl⟩
            obtain ⟨y0, y1, ey⟩ : ∃ y0 y1, dj[m + 1]! = (y0, y1) := ⟨_, _, rfl⟩
            have HL : Aside (ltF dj[m + 1]! dj[m]! = ltF (y0, y1) (x0, x1)) := by rw [ex, ey]; exact rfl
            rw [ex] at c0 c2
            rw [ey] at c1' c3
            clear ex ey
            have hlc := less_any y0 y1 x0 x1
            have g1 : (a : Int) < (m : Int) + 1 := by omega
            have g2 : ((m : Int) + 1).toNat = m + 1 := by omega
            have g3 : (m : Int) + 1 < (n : Int) := by omega
            have g4 : (0 : Int) ≤ (m : Int) + 1 := by omega
            have g5 : (m : Int) < (n : Int) := by omega
            have g6 : (m : Int) + 1 - 1 = (m : Int) := by omega
            have g7 : IntKind.i64.wrap (m : Int) = (m : Int) := by rw [IntKind.wrap_i64]; omega
            go_wp2_with fail
            go_still_tail 13, (by kernel_rfl)
            change wpList _ _ _ _ _ wr.drew
            have T2 : Tn blk dj w1 wr.drew := hTj.out.drewN 1
            generalize wr.drew = wd at T2 ⊢
            clear c0 c1' c2 c3 hTj
            go_wp2_with fail
            refine (less_any y0 y1 x0 x1 wd).mono ?_
            rintro e w3 ⟨rfl, o1, o2, rfl⟩
            have T3 := (T2.alloc o1).alloc o2
            generalize (wd.alloc o1).alloc o2 = w3 at T3 ⊢
            clear T2 hlc
            generalize ltF (y0, y1) (x0, x1) = t at HL ⊢
            cases t with
            | true =>
              obtain ⟨X0, X1, Y0, Y1, ex, ey, a0, a1, b0, b1, p0, p1, q0, q1, ⟨u1, e1⟩, ⟨u4, e4⟩, ⟨u6, e6⟩, S⟩ := exch T3 m (m + 1) (by rw [hsj.out]; omega) (by rw [hsj.out]; omega)
              have S1 := aside S
              clear ex ey S T3
              go_wp2_with fail
              go_region
              clear e1 e4 e6 a0 a1 b0 b1 p0 p1 q0 q1
              go_wp2_with fail
              go_roundw
              case rel =>
                refine ⟨m, swp dj m (m + 1), by congr 1, by omega, by omega, (size_swp _ _ _).trans hsj.out, S1.out 1, ?_⟩
                rw [swp_comm' _ _ _ (by rw [hsj.out]; omega) (by rw [hsj.out]; omega), ← hI.out, insInner_go a (m + 1) dj hja (by rw [show m + 1 - 1 = m from rfl]; exact HL.out)]
                exact rfl
              case measure => simp [intOf]
            | false =>
              have T4 := aside T3
              clear T3
              go_wp2_with fail
              go_roundw
              case rel => exact ⟨i + 1, dj, by go_num, by omega, by omega, hsj.out, T4.out, by rw [← hO.out, insOuter_go a b i dk hlt, ← hI.out, insInner_stop a (m + 1) dj (Or.inr (by rw [show m + 1 - 1 = m from rfl]; exact HL.out))]; exact rfl⟩
              case measure => simp [intOf]; omega
          · have hd : decide ((a : Int) < (j : Int)) = false := decide_eq_false (by omega)
            go_wp2_with fail
            go_quiet (fail)
            go_wp2_with fail
            go_roundw
            case rel => exact ⟨i + 1, dj, by go_num, by omega, by omega, hsj.out, hTj.out.drewN nq, by rw [← hO.out, insOuter_go a b i dk hlt, ← hI.out, insInner_stop a j dj (Or.inl (by omega))]; exact rfl⟩
            case measure => simp [intOf]; omega
      · go_wp2_with fail
        go_ret
        refine ⟨_, rfl, ?_, HB1.out.trans (hT.out.belowRow hblk HB1.out.size)⟩
        rw [show insertionSort ltF d a b = dk from by
          rw [insertionSort, ← insOuter_start, ← hO.out, insOuter_stop (lt := ltF) a b i dk hlt]]
        exact hT.out.lst hsk.out HX.out (Nat.le_refl _)
end Go.Proofs.Ytaifmeajfldckaa
