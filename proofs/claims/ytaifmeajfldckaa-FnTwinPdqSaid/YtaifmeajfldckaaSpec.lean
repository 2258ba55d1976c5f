/- spec.ItemRange, slices.Equal at items, and spec.SortedItems: an insertion sort. Condition: at most 4096 items, 0 <= a <= b <= n. -/
import Derived.Test.YtaifmeajfldckaaClone
import Derived.Test.YtaifmeajfldckaaIns
import Derived.Laws.StructEq
namespace Go.Proofs.Ytaifmeajfldckaa
open Go.RowKit Go.Sort Go.Proofs

/-! ### ItemRange -/
set_option maxHeartbeats 1000000 in
theorem itemRange_yes (A : Option Addr) (n c : Nat) (a b : Int) (w : World) (h1 : 0 ≤ a) (h2 : a ≤ b) (h3 : b ≤ n) (h4 : n ≤ 4096) :
    Calls Try.prog 21 #[.slice A n c, .int .i64 a, .int .i64 b] w fun e w' => e = .returned (.bool true) ∧ w' = w := by
  have h4' : (n : Int) ≤ 4096 := by omega
  go_enter Try.func21, Try.ntmps21
  go_wp2
  go_ret
  exact ⟨rfl, rfl⟩
set_option maxHeartbeats 1000000 in
theorem itemRange_no (A : Option Addr) (n c : Nat) (a b : Int) (w : World) (h : ¬ (0 ≤ a ∧ a ≤ b ∧ b ≤ n ∧ n ≤ 4096)) :
    Calls Try.prog 21 #[.slice A n c, .int .i64 a, .int .i64 b] w fun e w' => e = .returned (.bool false) ∧ w' = w := by
  by_cases h1 : 0 ≤ a
  · by_cases h2 : a ≤ b
    · by_cases h3 : b ≤ n
      · have h4 : ¬ (n : Int) ≤ 4096 := by omega
        clear h
        go_enter Try.func21, Try.ntmps21
        go_wp2
        go_ret
        exact ⟨rfl, rfl⟩
      · clear h
        go_enter Try.func21, Try.ntmps21
        go_wp2
        go_ret
        exact ⟨rfl, rfl⟩
    · clear h
      go_enter Try.func21, Try.ntmps21
      go_wp2
      go_ret
      exact ⟨rfl, rfl⟩
  · clear h
    go_enter Try.func21, Try.ntmps21
    go_wp2
    go_ret
    exact ⟨rfl, rfl⟩

/-! ### slices.Equal of two lists of the same items -/
theorem items_same (x0 x1 : Int) (w : World) : (binOp .neq 27 (.agg #[.int .i64 x0, .int .i64 x1]) (.agg #[.int .i64 x0, .int .i64 x1])).run Try.prog w = .ok (.bool false) w := by
  have hs : Try.prog.underlying 27 = some (.struct (Try.prog.fieldsOf 27)) := by kernel_rfl
  have hp : Try.prog.stoodInHeld 27 = false := by kernel_rfl
  have hf : Try.prog.fieldsOf 27 = #[{ name := "Key", type := 3, offset := 0, embedded := false, tag := "", pkgPath := "", byteOffset := 0 }, { name := "Mark", type := 3, offset := 1, embedded := false, tag := "", pkgPath := "", byteOffset := 8 }] := by kernel_rfl
  rw [run_neq_struct, run_equalIn_agg _ _ _ _ _ hs hp, hf]
  simp [Op.eqFields, go_sem]

set_option maxHeartbeats 4000000 in
set_option maxRecDepth 100000 in
theorem equal_same (v1 v2 : Value) (d : Array (Int × Int)) (w : World) (B1 B2 : Nat) (hv1 : Lst w B1 v1 d) (hv2 : Lst w B2 v2 d) (hn : d.size ≤ 4096) :
    Calls Try.prog 22 #[v1, v2] w fun e w' => e = .returned (.bool true) ∧ ∃ q, w' = w.drewN q := by
  obtain ⟨A1, c1, rfl, hc1, hm1, h1⟩ := hv1
  obtain ⟨A2, c2, rfl, hc2, hm2, h2⟩ := hv2
  by_cases h0 : d.size = 0
  · clear h1 h2
    rw [h0]
    go_enter Try.func22, Try.ntmps22
    go_wp2
    go_rounds 1
    go_ret
    exact ⟨rfl, 0, rfl⟩
  · rcases h1 with h1 | ⟨b1, off1, rfl, hb1, hcell1⟩
    · exact absurd h1 h0
    · rcases h2 with h2 | ⟨b2, off2, rfl, hb2, hcell2⟩
      · exact absurd h2 h0
      · have C1 := aside hcell1
        have C2 := aside hcell2
        clear hcell1 hcell2
        obtain ⟨n, hnd⟩ : ∃ n, d.size = n := ⟨_, rfl⟩
        rw [hnd] at hc1 hc2 hn h0 ⊢
        have HN := aside hnd
        clear hnd
        have hne := items_same
        go_enter Try.func22, Try.ntmps22
        go_wp2
        go_loopw [13] (fun vi wr => ∃ k : Nat, k ≤ n ∧ vi = .int .i64 k ∧ Aside (∃ q, wr = w.drewN q)) (fun vi _ => n - (intOf vi).toNat)
        case atStart => exact ⟨0, Nat.zero_le _, rfl, 0, rfl⟩
        case round =>
          obtain ⟨k, hk, rfl, hQ⟩ := hrel
          by_cases hlt : k < n
          · have a0 : wr.cell? ⟨b1, off1 + k * 2, none⟩ = some (.int .i64 d[k]!.1) := by obtain ⟨q, rfl⟩ := hQ.out; exact (C1.out k (by rw [HN.out]; exact hlt)).1
            have a1 : wr.cell? ⟨b1, off1 + k * 2 + 1, none⟩ = some (.int .i64 d[k]!.2) := by obtain ⟨q, rfl⟩ := hQ.out; exact (C1.out k (by rw [HN.out]; exact hlt)).2
            have e0 : wr.cell? ⟨b2, off2 + k * 2, none⟩ = some (.int .i64 d[k]!.1) := by obtain ⟨q, rfl⟩ := hQ.out; exact (C2.out k (by rw [HN.out]; exact hlt)).1
            have e1 : wr.cell? ⟨b2, off2 + k * 2 + 1, none⟩ = some (.int .i64 d[k]!.2) := by obtain ⟨q, rfl⟩ := hQ.out; exact (C2.out k (by rw [HN.out]; exact hlt)).2
            generalize d[k]!.1 = x0 at a0 e0
            generalize d[k]!.2 = x1 at a1 e1
            go_wp2_with fail
            go_quiet (fail)
            go_wp2
            go_roundw
            case rel => exact ⟨k + 1, by omega, by go_num, by obtain ⟨q, rfl⟩ := hQ.out; exact ⟨_, World.drewN_drewN _ _ _⟩⟩
            case measure => simp [intOf]; omega
          · go_wp2
            go_ret
            exact ⟨rfl, hQ.out⟩

theorem swp_comm' (d : Array (Int × Int)) (i j : Nat) (hi : i < d.size) (hj : j < d.size) : swp d i j = swp d j i := by
  apply Array.ext (by rw [size_swp, size_swp])
  intro p p1 p2
  have : (swp d i j)[p]! = (swp d j i)[p]! := by
    rw [swp_get d hi hj, swp_get d hj hi]
    repeat' split
    all_goals first | rfl | (congr 1; omega)
  rwa [getElem!_pos _ p p1, getElem!_pos _ p p2] at this
theorem Tn.lst {w0 w : World} {blk n : Nat} {v : Value} {d : Array (Int × Int)} (h : Tn blk d w0 w) (hs : d.size = n) (hb : Box blk n v) {B : Nat} (hB : w.heap.size ≤ B) : Lst w B v d := by
  subst hs
  obtain ⟨A, c, rfl, hc, hm, h0⟩ := hb
  rcases h0 with h0 | rfl
  · exact ⟨A, c, rfl, hc, hm, .inl h0⟩
  · by_cases h0 : d.size = 0
    · exact ⟨_, c, rfl, hc, hm, .inl h0⟩
    · exact lst_holds rfl h.holds hc hm (Nat.lt_of_lt_of_le (h.self.lt_of (i := 0) (by omega)) hB)

theorem insOuter_start (lt : (Int × Int) → (Int × Int) → Bool) (a b : Nat) (d : Array (Int × Int)) : insOuter lt a b a d = insOuter lt a b (a + 1) d := by
  by_cases h : a < b
  · rw [insOuter_go a b a d h, insInner_stop a a d (.inl (Nat.le_refl _))]
  · rw [insOuter_stop a b a d h, insOuter_stop a b (a + 1) d (by omega)]
/-- The facts on cells that the exchange of the items m and m + 1 wants, and what it leaves. -/
theorem exch {w0 w : World} {blk : Nat} {d : Array (Int × Int)} (h : Tn blk d w0 w) (i j : Nat) (hi : i < d.size) (hj : j < d.size) : ∃ x0 x1 y0 y1 : Int,
    d[i]! = (x0, x1) ∧ d[j]! = (y0, y1) ∧
    w.cell? ⟨blk, i * 2, none⟩ = some (.int .i64 x0) ∧ w.cell? ⟨blk, i * 2 + 1, none⟩ = some (.int .i64 x1) ∧ w.cell? ⟨blk, j * 2, none⟩ = some (.int .i64 y0) ∧ w.cell? ⟨blk, j * 2 + 1, none⟩ = some (.int .i64 y1) ∧
    w.frozen? ⟨blk, i * 2, none⟩ = false ∧ w.frozen? ⟨blk, i * 2 + 1, none⟩ = false ∧ w.frozen? ⟨blk, j * 2, none⟩ = false ∧ w.frozen? ⟨blk, j * 2 + 1, none⟩ = false ∧
    (∃ u, (w.setCell ⟨blk, i * 2, none⟩ (.int .i64 y0)).cell? ⟨blk, i * 2 + 1, none⟩ = some u) ∧
    (∃ u, ((w.setCell ⟨blk, i * 2, none⟩ (.int .i64 y0)).setCell ⟨blk, i * 2 + 1, none⟩ (.int .i64 y1)).cell? ⟨blk, j * 2, none⟩ = some u) ∧
    (∃ u, (((w.setCell ⟨blk, i * 2, none⟩ (.int .i64 y0)).setCell ⟨blk, i * 2 + 1, none⟩ (.int .i64 y1)).setCell ⟨blk, j * 2, none⟩ (.int .i64 x0)).cell? ⟨blk, j * 2 + 1, none⟩ = some u) ∧
    ∀ q, Aside (Tn blk (swp d i j) w0 (((((w.setCell ⟨blk, i * 2, none⟩ (.int .i64 y0)).setCell ⟨blk, i * 2 + 1, none⟩ (.int .i64 y1)).setCell ⟨blk, j * 2, none⟩ (.int .i64 x0)).setCell ⟨blk, j * 2 + 1, none⟩ (.int .i64 x1)).drewN q)) := by
  obtain ⟨u1, e1⟩ := cell?_setCell_some (w := w) (p := ⟨blk, i * 2, none⟩) (x := .int .i64 d[j]!.1) (q := ⟨blk, i * 2 + 1, none⟩) (h.c1 hi)
  obtain ⟨u2, e2⟩ := cell?_setCell_some (w := w) (p := ⟨blk, i * 2, none⟩) (x := .int .i64 d[j]!.1) (q := ⟨blk, j * 2, none⟩) (h.c0 hj)
  obtain ⟨u3, e3⟩ := cell?_setCell_some (w := w) (p := ⟨blk, i * 2, none⟩) (x := .int .i64 d[j]!.1) (q := ⟨blk, j * 2 + 1, none⟩) (h.c1 hj)
  obtain ⟨u4, e4⟩ := cell?_setCell_some (w := w.setCell ⟨blk, i * 2, none⟩ (.int .i64 d[j]!.1)) (p := ⟨blk, i * 2 + 1, none⟩) (x := .int .i64 d[j]!.2) (q := ⟨blk, j * 2, none⟩) e2
  obtain ⟨u5, e5⟩ := cell?_setCell_some (w := w.setCell ⟨blk, i * 2, none⟩ (.int .i64 d[j]!.1)) (p := ⟨blk, i * 2 + 1, none⟩) (x := .int .i64 d[j]!.2) (q := ⟨blk, j * 2 + 1, none⟩) e3
  obtain ⟨u6, e6⟩ := cell?_setCell_some (w := (w.setCell ⟨blk, i * 2, none⟩ (.int .i64 d[j]!.1)).setCell ⟨blk, i * 2 + 1, none⟩ (.int .i64 d[j]!.2)) (p := ⟨blk, j * 2, none⟩) (x := .int .i64 d[i]!.1) (q := ⟨blk, j * 2 + 1, none⟩) e5
  exact ⟨d[i]!.1, d[i]!.2, d[j]!.1, d[j]!.2, rfl, rfl, h.c0 hi, h.c1 hi, h.c0 hj, h.c1 hj, h.f0 hi, h.f1 hi, h.f0 hj, h.f1 hj, ⟨_, e1⟩, ⟨_, e4⟩, ⟨_, e6⟩, fun q => h.swapped hi hj q⟩

set_option maxHeartbeats 8000000 in
set_option maxRecDepth 100000 in
theorem sortedItems_any (v : Value) (d : Array (Int × Int)) (w : World) (B : Nat) (hv : Lst w B v d) (hn : d.size ≤ 4096) (a b : Nat) (hab : a ≤ b) (hb : b ≤ d.size) :
    Calls Try.prog 24 #[v, .int .i64 a, .int .i64 b] w fun e w' => ∃ v', e = .returned v' ∧ Lst w' w'.heap.size v' (insertionSort ltK d a b) ∧ Below w.heap.size w w' := by
  have HV := aside hv
  obtain ⟨n, hnd⟩ : ∃ n, d.size = n := ⟨_, rfl⟩
  have HN := aside hnd
  rw [hnd] at hn hb
  clear hnd hv
  go_enter Try.func24, Try.ntmps24
  go_wp2_with fail
  refine (slicesClone_any v d w B HV.out (by rw [HN.out]; exact hn)).mono ?_
  rintro e w1 ⟨v1, rfl, blk, hbx, hblk, T1, hb1⟩
  rw [HN.out] at hbx
  have HB1 := aside hb1
  have HX := aside hbx
  obtain ⟨A1, c1, rfl, hc1, hm1, hA1⟩ := hbx
  clear hb1
  rcases hA1 with h0 | rfl
  · subst h0
    obtain rfl : b = 0 := by omega
    obtain rfl : a = 0 := by omega
    go_wp2_with fail
    go_rounds 1
    go_ret
    refine ⟨_, rfl, ?_, HB1.out⟩
    rw [show insertionSort ltK d 0 0 = d from insOuter_stop _ _ _ _ (by omega)]
    exact T1.lst HN.out HX.out (Nat.le_refl _)
  · have AT1 := aside T1
    clear T1
    go_wp2_with fail
    go_loopw [8] (fun vi wr => ∃ (i : Nat) (dk : Array (Int × Int)), vi = .int .i64 i ∧ a ≤ i ∧ i ≤ b ∧ Aside (dk.size = n) ∧ Aside (Tn blk dk w1 wr) ∧ Aside (insOuter ltK a b i dk = insOuter ltK a b a d)) (fun vi _ => b - (intOf vi).toNat)
    case atStart => exact ⟨a, d, rfl, Nat.le_refl _, hab, HN.out, AT1, rfl⟩
    case round =>
      obtain ⟨i, dk, rfl, hai, hib, hsk, hT, hO⟩ := hrel
      by_cases hlt : i < b
      · go_wp2_with fail
        go_loopw [9] (fun vj wr2 => ∃ (j : Nat) (dj : Array (Int × Int)), vj = .int .i64 j ∧ a ≤ j ∧ j ≤ i ∧ Aside (dj.size = n) ∧ Aside (Tn blk dj w1 wr2) ∧ Aside (insInner ltK a j dj = insInner ltK a i dk)) (fun vj _ => (intOf vj).toNat)
        case atStart => exact ⟨i, dk, rfl, by omega, Nat.le_refl _, hsk, hT, rfl⟩
        case round =>
          obtain ⟨j, dj, rfl, haj, hji, hsj, hTj, hI⟩ := hrel
          by_cases hja : a < j
          · obtain ⟨m, rfl⟩ : ∃ m, j = m + 1 := ⟨j - 1, by omega⟩
            have c0 := hTj.out.c0 (i := m) (by rw [hsj.out]; omega)
            have c1' := hTj.out.c0 (i := m + 1) (by rw [hsj.out]; omega)
            obtain ⟨x0, ex⟩ : ∃ x0, dj[m]!.1 = x0 := ⟨_, rfl⟩
            obtain ⟨y0, ey⟩ : ∃ y0, dj[m + 1]!.1 = y0 := ⟨_, rfl⟩
            have HL : Aside (ltK dj[m + 1]! dj[m]! = decide (y0 < x0)) := by unfold ltK; rw [ex, ey]; exact rfl
            rw [ex] at c0
            rw [ey] at c1'
            clear ex ey
            have g1 : (a : Int) < (m : Int) + 1 := by omega
            have g2 : ((m : Int) + 1).toNat = m + 1 := by omega
            have g3 : (m : Int) + 1 < (n : Int) := by omega
            by_cases hxy : y0 < x0
            · go_wp2_with fail
              go_quiet (fail)
              have T2 := hTj.out.drewN nq
              generalize wr.drewN nq = wd at T2 ⊢
              clear c0 c1'
              obtain ⟨X0, X1, Y0, Y1, ex, ey, a0, a1, b0, b1, p0, p1, q0, q1, ⟨u1, e1⟩, ⟨u4, e4⟩, ⟨u6, e6⟩, S⟩ := exch T2 m (m + 1) (by rw [hsj.out]; omega) (by rw [hsj.out]; omega)
              have S1 := aside S
              clear ex ey S T2
              go_wp2_with fail
              go_region
              clear e1 e4 e6 a0 a1 b0 b1 p0 p1 q0 q1
              go_wp2_with fail
              go_roundw
              case rel =>
                refine ⟨m, swp dj m (m + 1), by congr 1, by omega, by omega, (size_swp _ _ _).trans hsj.out, S1.out 1, ?_⟩
                rw [swp_comm' _ _ _ (by rw [hsj.out]; omega) (by rw [hsj.out]; omega), ← hI.out, insInner_go a (m + 1) dj hja (by rw [show m + 1 - 1 = m from rfl, HL.out]; exact decide_eq_true hxy)]
                exact rfl
              case measure => simp [intOf]
            · go_wp2_with fail
              go_quiet (fail)
              go_wp2_with fail
              go_roundw
              case rel => exact ⟨i + 1, dj, by go_num, by omega, by omega, hsj.out, hTj.out.drewN nq, by rw [← hO.out, insOuter_go a b i dk hlt, ← hI.out, insInner_stop a (m + 1) dj (Or.inr (by rw [show m + 1 - 1 = m from rfl, HL.out]; exact decide_eq_false (by omega)))]; exact rfl⟩
              case measure => simp [intOf]; omega
          · have hd : decide ((a : Int) < (j : Int)) = false := decide_eq_false (by omega)
            go_wp2_with fail
            go_quiet (fail)
            go_wp2_with fail
            go_roundw
            case rel => exact ⟨i + 1, dj, by go_num, by omega, by omega, hsj.out, hTj.out.drewN nq, by rw [← hO.out, insOuter_go a b i dk hlt, ← hI.out, insInner_stop a j dj (Or.inl (by omega))]; exact rfl⟩
            case measure => simp [intOf]; omega
      · go_wp2_with fail
        go_ret
        refine ⟨_, rfl, ?_, HB1.out.trans (hT.out.belowRow hblk HB1.out.size)⟩
        rw [show insertionSort ltK d a b = dk from by
          rw [insertionSort, ← insOuter_start, ← hO.out, insOuter_stop (lt := ltK) a b i dk hlt]]
        exact hT.out.lst hsk.out HX.out (Nat.le_refl _)
end Go.Proofs.Ytaifmeajfldckaa
