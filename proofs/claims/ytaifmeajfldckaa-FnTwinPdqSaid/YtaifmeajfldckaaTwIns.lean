/- slices' insertionSortCmpFunc of items by keys does what the plain insertionSort does. Condition: 0 <= a <= b <= n. -/
import Derived.Test.YtaifmeajfldckaaRowed
import Derived.StillTailTactics
namespace Go.Proofs.Ytaifmeajfldckaa
open Go.RowKit Go.Sort Go.Proofs

set_option maxHeartbeats 1000000 in
theorem byKey_any (x0 x1 y0 y1 : Int) (w : World) :
    Calls Try.prog 82 #[.agg #[.int .i64 x0, .int .i64 x1], .agg #[.int .i64 y0, .int .i64 y1]] w fun e w' => ∃ z : Int, e = .returned (.int .i64 z) ∧ decide (z < 0) = decide (x0 < y0) ∧ ∃ o1 o2, w' = (w.alloc o1).alloc o2 := by
  by_cases h1 : x0 < y0
  · go_enter Try.func82, Try.ntmps82
    go_wp2
    go_ret
    exact ⟨_, rfl, by simp [h1], _, _, rfl⟩
  · by_cases h2 : x0 > y0
    · go_enter Try.func82, Try.ntmps82
      go_wp2
      go_ret
      exact ⟨_, rfl, by simp [h1], _, _, rfl⟩
    · go_enter Try.func82, Try.ntmps82
      go_wp2
      go_ret
      exact ⟨_, rfl, by simp [h1], _, _, rfl⟩

set_option maxHeartbeats 8000000 in
set_option maxRecDepth 100000 in
theorem insCmp_any (blk n c1 : Nat) (d : Array (Int × Int)) (w : World) (h : Tn blk d w w) (hs : d.size = n) (hn : n ≤ 4096) (a b : Nat) (hab : a ≤ b) (hb : b ≤ n) :
    Calls Try.prog 81 #[.slice (some ⟨blk, 0, none⟩) n c1, .int .i64 a, .int .i64 b, .func (.func 82) #[] #[]] w fun e w' => e = .returned (.tuple #[]) ∧ Tn blk (insertionSort ltK d a b) w w' := by
  have ek : ∀ args w, (callFunc 82 args).run Try.prog w = .ok (.enter 82 args) w := enters_of Try.func82 (by kernel_rfl) rfl
  have AT1 := aside h
  have HN := aside hs
  clear h hs
  go_enter Try.func81, Try.ntmps81
  go_wp2_with fail
  go_loopw [8] (fun vi wr => ∃ (i : Nat) (dk : Array (Int × Int)), vi = .int .i64 i ∧ a < i ∧ i ≤ b + 1 ∧ Aside (dk.size = n) ∧ Aside (Tn blk dk w wr) ∧ Aside (insOuter ltK a b i dk = insOuter ltK a b (a + 1) d)) (fun vi _ => b + 1 - (intOf vi).toNat)
  case atStart => exact ⟨a + 1, d, by go_num, by omega, by omega, HN.out, AT1, rfl⟩
  case round =>
    obtain ⟨i, dk, rfl, hai, hib, hsk, hT, hO⟩ := hrel
    by_cases hlt : i < b
    · go_wp2_with fail
      go_loopw [9] (fun vj wr2 => ∃ (j : Nat) (dj : Array (Int × Int)), vj = .int .i64 j ∧ a ≤ j ∧ j ≤ i ∧ Aside (dj.size = n) ∧ Aside (Tn blk dj w wr2) ∧ Aside (insInner ltK a j dj = insInner ltK a i dk)) (fun vj _ => (intOf vj).toNat)
      case atStart => exact ⟨i, dk, rfl, by omega, Nat.le_refl _, hsk, hT, rfl⟩
      case round =>
        obtain ⟨j, dj, rfl, haj, hji, hsj, hTj, hI⟩ := hrel
        by_cases hja : a < j
        · obtain ⟨m, rfl⟩ : ∃ m, j = m + 1 := ⟨j - 1, by omega⟩
          have c0 := hTj.out.c0 (i := m) (by rw [hsj.out]; omega)
          have c1' := hTj.out.c0 (i := m + 1) (by rw [hsj.out]; omega)
          have c2 := hTj.out.c1 (i := m) (by rw [hsj.out]; omega)
          have c3 := hTj.out.c1 (i := m + 1) (by rw [hsj.out]; omega)
          obtain ⟨x0, x1, ex⟩ : ∃ x0 x1, dj[m]! = (x0, x1) := ⟨_, _, rfl⟩
          obtain ⟨y0, y1, ey⟩ : ∃ y0 y1, dj[m + 1]! = (y0, y1) := ⟨_, _, rfl⟩
          have HL : Aside (ltK dj[m + 1]! dj[m]! = decide (y0 < x0)) := by rw [ex, ey]; exact rfl
          rw [ex] at c0 c2
          rw [ey] at c1' c3
          clear ex ey
          have hlc := byKey_any y0 y1 x0 x1
          have g1 : (a : Int) < (m : Int) + 1 := by omega
          have g2 : ((m : Int) + 1).toNat = m + 1 := by omega
          have g3 : (m : Int) + 1 < (n : Int) := by omega
          have g4 : (0 : Int) ≤ (m : Int) + 1 := by omega
          have g5 : (m : Int) < (n : Int) := by omega
          have g6 : (m : Int) + 1 - 1 = (m : Int) := by omega
          have g7 : IntKind.i64.wrap (m : Int) = (m : Int) := by rw [IntKind.wrap_i64]; omega
          go_wp2_with fail
          go_still_tail 14, (by kernel_rfl)
          change wpList _ _ _ _ _ wr.drew
          have T2 : Tn blk dj w wr.drew := hTj.out.drewN 1
          generalize wr.drew = wd at T2 ⊢
          clear c0 c1' c2 c3 hTj
          go_wp2_with fail
          refine (byKey_any y0 y1 x0 x1 wd).mono ?_
          rintro e w3 ⟨z, rfl, hz, o1, o2, rfl⟩
          have T3 := (T2.alloc o1).alloc o2
          generalize (wd.alloc o1).alloc o2 = w3 at T3 ⊢
          clear T2 hlc
          generalize decide (y0 < x0) = t at HL hz
          cases t with
          | true =>
            have hz1 : z < 0 := of_decide_eq_true hz
            obtain ⟨X0, X1, Y0, Y1, ex, ey, a0, a1, b0, b1, p0, p1, q0, q1, ⟨u1, e1⟩, ⟨u4, e4⟩, ⟨u6, e6⟩, S⟩ := exch T3 (m + 1) m (by rw [hsj.out]; omega) (by rw [hsj.out]; omega)
            have S1 := aside S
            clear ex ey S T3
            go_wp2_with fail
            go_region
            clear e1 e4 e6 a0 a1 b0 b1 p0 p1 q0 q1
            go_wp2_with fail
            go_roundw
            case rel =>
              refine ⟨m, swp dj (m + 1) m, by congr 1, by omega, by omega, (size_swp _ _ _).trans hsj.out, S1.out 1, ?_⟩
              rw [← hI.out, insInner_go a (m + 1) dj hja (by rw [show m + 1 - 1 = m from rfl]; exact HL.out)]
              exact rfl
            case measure => simp [intOf]
          | false =>
            have hz1 : ¬ z < 0 := of_decide_eq_false hz
            have T4 := aside T3
            clear T3
            go_wp2_with fail
            go_roundw
            case rel => exact ⟨i + 1, dj, by go_num, by omega, by omega, hsj.out, T4.out, by rw [← hO.out, insOuter_go a b i dk hlt, ← hI.out, insInner_stop a (m + 1) dj (Or.inr (by rw [show m + 1 - 1 = m from rfl]; exact HL.out))]; exact rfl⟩
            case measure => simp [intOf]; omega
        · have hd : decide ((a : Int) < (j : Int)) = false := decide_eq_false (by omega)
          go_wp2_with fail
          go_quiet (fail)
          go_wp2_with fail
          go_roundw
          case rel => exact ⟨i + 1, dj, by go_num, by omega, by omega, hsj.out, hTj.out.drewN nq, by rw [← hO.out, insOuter_go a b i dk hlt, ← hI.out, insInner_stop a j dj (Or.inl (by omega))]; exact rfl⟩
          case measure => simp [intOf]; omega
    · go_wp2_with fail
      go_end0
      exact ⟨rfl, by rw [insertionSort, ← hO.out, insOuter_stop (lt := ltK) a b i dk hlt]; exact hT.out⟩

theorem insCmp_at (v : Value) (blk n : Nat) (hX : Box blk n v) (d : Array (Int × Int)) (w : World) (h : Tn blk d w w) (hs : d.size = n) (hn : n ≤ 4096) (a b : Nat) (hab : a ≤ b) (hb : b ≤ n) :
    Calls Try.prog 81 #[v, .int .i64 a, .int .i64 b, .func (.func 82) #[] #[]] w fun e w' => e = .returned (.tuple #[]) ∧ Aside (Tn blk (insertionSort ltK d a b) w w') := by
  obtain ⟨A, c, rfl, hc, hm, h0⟩ := hX
  by_cases hz : n = 0
  · subst hz
    obtain rfl : b = 0 := by omega
    obtain rfl : a = 0 := by omega
    have HE : Aside (Tn blk (insertionSort ltK d 0 0) w w) := by
      show Tn _ _ _ _
      rw [show insertionSort ltK d 0 0 = d from insOuter_stop _ _ _ _ (by omega)]; exact h
    clear h h0
    go_enter Try.func81, Try.ntmps81
    go_wp2
    go_rounds 1
    go_end0
    exact ⟨rfl, HE⟩
  · obtain rfl : A = some ⟨blk, 0, none⟩ := by rcases h0 with h0 | h0; exact absurd h0 hz; exact h0
    exact insCmp_any blk n c d w h hs hn a b hab hb
end Go.Proofs.Ytaifmeajfldckaa
