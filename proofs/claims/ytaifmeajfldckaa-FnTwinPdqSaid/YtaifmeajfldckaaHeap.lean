/- sort's siftDown and heapSort over an Interface value do what the plain ones do. Conditions: the range lies in the row. -/
import Derived.Test.YtaifmeajfldckaaMeth
namespace Go.Proofs.Ytaifmeajfldckaa
open Go.RowKit Go.Sort Go.Proofs

section
variable {lt : (Int × Int) → (Int × Int) → Bool} {T : TypeId} {rv : Value} {gl gs gn : Nat} {rl rs rn : Value} {blk n : Nat}

theorem siftDown_size : ∀ (k hi F root : Nat) (d : Array (Int × Int)), hi - root ≤ k → (siftDown lt hi F root d).size = d.size := by
  intro k
  induction k with
  | zero => intro hi F root d h; rw [siftDown, dif_pos (by omega)]
  | succ k ih =>
    intro hi F root d h
    rw [siftDown]
    split
    · rfl
    · split
      · split
        · rfl
        · split
          · rw [ih _ _ _ _ (by omega), size_swp]
          · rfl
      · split
        · rfl
        · rw [ih _ _ _ _ (by omega), size_swp]
theorem sift_end (hi F root : Nat) (d : Array (Int × Int)) (h : hi ≤ 2 * root + 1) : siftDown lt hi F root d = d := by
  rw [siftDown, dif_pos h]
theorem sift_r_stop (hi F root : Nat) (d : Array (Int × Int)) (h : 2 * root + 2 < hi) (h1 : lt d[F + (2 * root + 1)]! d[F + (2 * root + 2)]! = true) (h2 : lt d[F + root]! d[F + (2 * root + 2)]! = false) : siftDown lt hi F root d = d := by
  rw [siftDown, dif_neg (by omega), if_pos, if_pos (by simp [h2])]
  simp only [Bool.and_eq_true, decide_eq_true_eq]
  exact ⟨by omega, h1⟩
theorem sift_r_go (hi F root : Nat) (d : Array (Int × Int)) (h : 2 * root + 2 < hi) (h1 : lt d[F + (2 * root + 1)]! d[F + (2 * root + 2)]! = true) (h2 : lt d[F + root]! d[F + (2 * root + 2)]! = true) :
    siftDown lt hi F root d = siftDown lt hi F (2 * root + 2) (swp d (F + root) (F + (2 * root + 2))) := by
  rw [siftDown, dif_neg (by omega), if_pos, if_neg (by simp [h2]), dif_pos h]
  simp only [Bool.and_eq_true, decide_eq_true_eq]
  exact ⟨by omega, h1⟩
theorem sift_l_stop (hi F root : Nat) (d : Array (Int × Int)) (h : 2 * root + 1 < hi) (h1 : ¬ 2 * root + 2 < hi ∨ lt d[F + (2 * root + 1)]! d[F + (2 * root + 2)]! = false) (h2 : lt d[F + root]! d[F + (2 * root + 1)]! = false) : siftDown lt hi F root d = d := by
  rw [siftDown, dif_neg (by omega), if_neg, if_pos (by simp [h2])]
  simp only [Bool.and_eq_true, decide_eq_true_eq]
  rintro ⟨c, e⟩
  rcases h1 with h1 | h1
  · omega
  · rw [show F + (2 * root + 1) + 1 = F + (2 * root + 2) by omega, h1] at e; cases e
theorem sift_l_go (hi F root : Nat) (d : Array (Int × Int)) (h : 2 * root + 1 < hi) (h1 : ¬ 2 * root + 2 < hi ∨ lt d[F + (2 * root + 1)]! d[F + (2 * root + 2)]! = false) (h2 : lt d[F + root]! d[F + (2 * root + 1)]! = true) :
    siftDown lt hi F root d = siftDown lt hi F (2 * root + 1) (swp d (F + root) (F + (2 * root + 1))) := by
  rw [siftDown, dif_neg (by omega), if_neg, if_neg (by simp [h2])]
  simp only [Bool.and_eq_true, decide_eq_true_eq]
  rintro ⟨c, e⟩
  rcases h1 with h1 | h1
  · omega
  · rw [show F + (2 * root + 1) + 1 = F + (2 * root + 2) by omega, h1] at e; cases e

set_option maxHeartbeats 8000000 in
set_option maxRecDepth 100000 in
theorem siftDown_any (d : Array (Int × Int)) (w : World) (M : Meth lt T rv gl gs gn rl rs rn blk n w) (h : Tn blk d w w) (hs : d.size = n) (lo hi F : Nat) (hlo : lo ≤ n) (hb : F + hi ≤ n) :
    Calls Try.prog 97 #[.iface T rv, .int .i64 lo, .int .i64 hi, .int .i64 F] w fun e w' => e = .returned (.tuple #[]) ∧ Tn blk (siftDown lt hi F lo d) w w' := by
  have hn := M.hn
  have el := M.el
  have es := M.es
  have ml := M.ml
  have ms := M.ms
  have HM : Aside _ := M
  have H : Aside _ := h
  have HS : Aside _ := hs
  clear M h hs
  go_enter Try.func97, Try.ntmps97
  go_wp2
  go_loopw [8] (fun vi wr => ∃ (r : Nat) (dk : Array (Int × Int)), vi = .int .i64 r ∧ r ≤ n ∧ Aside (dk.size = n) ∧ Aside (Tn blk dk w wr) ∧ Aside (siftDown lt hi F r dk = siftDown lt hi F lo d)) (fun vi _ => hi - (intOf vi).toNat)
  case atStart => exact ⟨lo, d, rfl, hlo, HS, H, rfl⟩
  case round =>
    obtain ⟨r, dk, rfl, hr, hsk, hT, hO⟩ := hrel
    have o0 := hT.out.on
    by_cases c0 : hi ≤ 2 * r + 1
    · go_wp2_with fail
      go_returns
      exact ⟨rfl, by rw [← hO.out, sift_end _ _ _ _ c0]; exact hT.out⟩
    · by_cases c1 : 2 * r + 2 < hi
      · have c1' : 2 * (r : Int) + 1 + 1 < (hi : Int) := by omega
        cases l1 : lt dk[F + (2 * r + 1)]! dk[F + (2 * r + 2)]! with
        | true =>
          have L1 : Aside _ := l1
          clear l1
          cases l2 : lt dk[F + r]! dk[F + (2 * r + 2)]! with
          | true =>
            have L2 : Aside _ := l2
            clear l2
            go_wp2_with fail
            refine (HM.out.lessAt hT.out hsk.out (F + (2 * r + 1)) (F + (2 * r + 2)) (by omega) (by omega) L1.out (by omega) (by omega)).mono ?_
            rintro e w1 ⟨rfl, T1, o1, -⟩
            go_wp2_with fail
            refine (HM.out.lessAt T1.out hsk.out (F + r) (F + (2 * r + 2)) (by omega) (by omega) L2.out (by omega) (by omega)).mono ?_
            rintro e w2 ⟨rfl, T2, o2, -⟩
            go_wp2_with fail
            refine (HM.out.swapAt T2.out hsk.out (F + r) (F + (2 * r + 2)) (by omega) (by omega) (by omega) (by omega)).mono ?_
            rintro e w3 ⟨rfl, T3, o3, -⟩
            go_wp2_with fail
            go_roundw
            case rel => exact ⟨2 * r + 2, _, by congr 1, by omega, (size_swp _ _ _).trans hsk.out, T3, by rw [← hO.out, sift_r_go _ _ _ _ c1 L1.out L2.out]; exact rfl⟩
            case measure => simp [intOf]; omega
          | false =>
            have L2 : Aside _ := l2
            clear l2
            go_wp2_with fail
            refine (HM.out.lessAt hT.out hsk.out (F + (2 * r + 1)) (F + (2 * r + 2)) (by omega) (by omega) L1.out (by omega) (by omega)).mono ?_
            rintro e w1 ⟨rfl, T1, o1, -⟩
            go_wp2_with fail
            refine (HM.out.lessAt T1.out hsk.out (F + r) (F + (2 * r + 2)) (by omega) (by omega) L2.out (by omega) (by omega)).mono ?_
            rintro e w2 ⟨rfl, T2, o2, -⟩
            go_wp2_with fail
            go_returns
            exact ⟨rfl, by rw [← hO.out, sift_r_stop _ _ _ _ c1 L1.out L2.out]; exact T2.out⟩
        | false =>
          have L1 : Aside _ := l1
          clear l1
          cases l2 : lt dk[F + r]! dk[F + (2 * r + 1)]! with
          | true =>
            have L2 : Aside _ := l2
            clear l2
            go_wp2_with fail
            refine (HM.out.lessAt hT.out hsk.out (F + (2 * r + 1)) (F + (2 * r + 2)) (by omega) (by omega) L1.out (by omega) (by omega)).mono ?_
            rintro e w1 ⟨rfl, T1, o1, -⟩
            go_wp2_with fail
            refine (HM.out.lessAt T1.out hsk.out (F + r) (F + (2 * r + 1)) (by omega) (by omega) L2.out (by omega) (by omega)).mono ?_
            rintro e w2 ⟨rfl, T2, o2, -⟩
            go_wp2_with fail
            refine (HM.out.swapAt T2.out hsk.out (F + r) (F + (2 * r + 1)) (by omega) (by omega) (by omega) (by omega)).mono ?_
            rintro e w3 ⟨rfl, T3, o3, -⟩
            go_wp2_with fail
            go_roundw
            case rel => exact ⟨2 * r + 1, _, by congr 1, by omega, (size_swp _ _ _).trans hsk.out, T3, by rw [← hO.out, sift_l_go _ _ _ _ (by omega) (.inr L1.out) L2.out]; exact rfl⟩
            case measure => simp [intOf]; omega
          | false =>
            have L2 : Aside _ := l2
            clear l2
            go_wp2_with fail
            refine (HM.out.lessAt hT.out hsk.out (F + (2 * r + 1)) (F + (2 * r + 2)) (by omega) (by omega) L1.out (by omega) (by omega)).mono ?_
            rintro e w1 ⟨rfl, T1, o1, -⟩
            go_wp2_with fail
            refine (HM.out.lessAt T1.out hsk.out (F + r) (F + (2 * r + 1)) (by omega) (by omega) L2.out (by omega) (by omega)).mono ?_
            rintro e w2 ⟨rfl, T2, o2, -⟩
            go_wp2_with fail
            go_returns
            exact ⟨rfl, by rw [← hO.out, sift_l_stop _ _ _ _ (by omega) (.inr L1.out) L2.out]; exact T2.out⟩
      · have c1' : ¬ 2 * (r : Int) + 1 + 1 < (hi : Int) := by omega
        cases l2 : lt dk[F + r]! dk[F + (2 * r + 1)]! with
        | true =>
          have L2 : Aside _ := l2
          clear l2
          go_wp2_with fail
          refine (HM.out.lessAt hT.out hsk.out (F + r) (F + (2 * r + 1)) (by omega) (by omega) L2.out (by omega) (by omega)).mono ?_
          rintro e w2 ⟨rfl, T2, o2, -⟩
          go_wp2_with fail
          refine (HM.out.swapAt T2.out hsk.out (F + r) (F + (2 * r + 1)) (by omega) (by omega) (by omega) (by omega)).mono ?_
          rintro e w3 ⟨rfl, T3, o3, -⟩
          go_wp2_with fail
          go_roundw
          case rel => exact ⟨2 * r + 1, _, by congr 1, by omega, (size_swp _ _ _).trans hsk.out, T3, by rw [← hO.out, sift_l_go _ _ _ _ (by omega) (.inl c1) L2.out]; exact rfl⟩
          case measure => simp [intOf]; omega
        | false =>
          have L2 : Aside _ := l2
          clear l2
          go_wp2_with fail
          refine (HM.out.lessAt hT.out hsk.out (F + r) (F + (2 * r + 1)) (by omega) (by omega) L2.out (by omega) (by omega)).mono ?_
          rintro e w2 ⟨rfl, T2, o2, -⟩
          go_wp2_with fail
          go_returns
          exact ⟨rfl, by rw [← hO.out, sift_l_stop _ _ _ _ (by omega) (.inl c1) L2.out]; exact T2.out⟩
theorem siftDown_at {w0 w : World} {d : Array (Int × Int)} (M : Meth lt T rv gl gs gn rl rs rn blk n w0) (h : Tn blk d w0 w) (hs : d.size = n) (lo hi F : Nat) (hlo : lo ≤ n) (hb : F + hi ≤ n) {A B K : Int} (eA : A = lo) (eB : B = hi) (eK : K = F) :
    Calls Try.prog 97 #[.iface T rv, .int .i64 A, .int .i64 B, .int .i64 K] w (Post blk (siftDown lt hi F lo d) w0 w (.tuple #[])) := by
  subst eA eB eK
  exact post_lift (siftDown_any d w (M.at_ h hs) h.self hs lo hi F hlo hb) h (siftDown_size _ _ _ _ _ (Nat.le_refl _))

theorem halfStart {a b : Nat} (hab : a ≤ b) : ((b : Int) - (a : Int) - 1).tdiv 2 = (((b - a - 1) / 2 + 1 : Nat) : Int) - 1 := by
  by_cases e : a = b
  · subst e; simp
  · rw [Int.tdiv_eq_ediv_of_nonneg (by omega)]; omega
theorem heapBuild_size (hi F : Nat) : ∀ (k : Nat) (d : Array (Int × Int)), (heapBuild lt hi F k d).size = d.size := by
  intro k
  induction k with
  | zero => intro d; rfl
  | succ k ih => intro d; rw [heapBuild, ih, siftDown_size _ _ _ _ _ (Nat.le_refl _)]
theorem heapPop_size (F : Nat) : ∀ (k : Nat) (d : Array (Int × Int)), (heapPop lt F k d).size = d.size := by
  intro k
  induction k with
  | zero => intro d; rfl
  | succ k ih => intro d; rw [heapPop, ih, siftDown_size _ _ _ _ _ (Nat.le_refl _), size_swp]
theorem heapSort_size (d : Array (Int × Int)) (a b : Nat) : (heapSort lt d a b).size = d.size := by rw [heapSort, heapPop_size, heapBuild_size]

set_option maxHeartbeats 8000000 in
set_option maxRecDepth 100000 in
theorem heapSort_any (d : Array (Int × Int)) (w : World) (M : Meth lt T rv gl gs gn rl rs rn blk n w) (h : Tn blk d w w) (hs : d.size = n) (a b : Nat) (hab : a ≤ b) (hb : b ≤ n) :
    Calls Try.prog 83 #[.iface T rv, .int .i64 a, .int .i64 b] w fun e w' => e = .returned (.tuple #[]) ∧ Tn blk (heapSort lt d a b) w w' := by
  have hn := M.hn
  have es := M.es
  have ms := M.ms
  have HM : Aside _ := M
  have H : Aside _ := h
  have HS : Aside _ := hs
  clear M h hs
  go_enter Try.func83, Try.ntmps83
  go_wp2
  go_loopg [9] ((b - a - 1) / 2 + 1) (fun k s9 wr => s9 = .int .i64 ((k : Int) - 1) ∧ k ≤ (b - a - 1) / 2 + 1 ∧ ∃ (dk : Array (Int × Int)), Aside (dk.size = n) ∧ Aside (Tn blk dk w wr) ∧ Aside (heapBuild lt (b - a) a k dk = heapBuild lt (b - a) a ((b - a - 1) / 2 + 1) d))
  case atStart => exact ⟨by rw [halfStart hab], Nat.le_refl _, d, HS, H, rfl⟩
  case round =>
    obtain ⟨rfl, hkk, dk, hsk, hT, hO⟩ := hrel
    cases gk with
    | zero =>
      go_wp2
      go_loopg [10] (b - a) (fun k s10 wr2 => s10 = .int .i64 ((k : Int) - 1) ∧ k ≤ b - a ∧ ∃ (dj : Array (Int × Int)), Aside (dj.size = n) ∧ Aside (Tn blk dj w wr2) ∧ Aside (heapPop lt a k dj = heapPop lt a (b - a) dk))
      case atStart => exact ⟨by congr 1; omega, Nat.le_refl _, dk, hsk, hT, rfl⟩
      case round =>
        obtain ⟨rfl, hkk2, dj, hsj, hTj, hP⟩ := hrel
        have o0 := hTj.out.on
        cases gk with
        | zero =>
          go_wp2
          go_end0
          exact ⟨rfl, by rw [heapSort, ← hO.out, show heapBuild lt (b - a) a 0 dk = dk from rfl, ← hP.out]; exact hTj.out⟩
        | succ k =>
          go_wp2_with fail
          refine (HM.out.swapAt hTj.out hsj.out a (a + k) (by omega) (by omega) (by omega) (by omega)).mono ?_
          rintro e w1 ⟨rfl, T1, o1, -⟩
          go_wp2_with fail
          refine (siftDown_at HM.out T1.out ((size_swp _ _ _).trans hsj.out) 0 k a (by omega) (by omega) (by omega) (by omega) (by omega)).mono ?_
          rintro e w2 ⟨rfl, T2, o2, -⟩
          go_wp2_with fail
          go_roundg k
          case measure => omega
          case rel => exact ⟨by simp, by omega, _, (siftDown_size _ _ _ _ _ (Nat.le_refl _)).trans ((size_swp _ _ _).trans hsj.out), T2, hP⟩
    | succ k =>
      go_wp2_with fail
      refine (siftDown_at HM.out hT.out hsk.out k (b - a) a (by omega) (by omega) (by omega) (by omega) (by omega)).mono ?_
      rintro e w1 ⟨rfl, T1, o1, -⟩
      go_wp2_with fail
      go_roundg k
      case measure => omega
      case rel => exact ⟨by simp, by omega, _, (siftDown_size _ _ _ _ _ (Nat.le_refl _)).trans hsk.out, T1, hO⟩
theorem heapSort_at {w0 w : World} {d : Array (Int × Int)} (M : Meth lt T rv gl gs gn rl rs rn blk n w0) (h : Tn blk d w0 w) (hs : d.size = n) (a b : Nat) (hab : a ≤ b) (hb : b ≤ n) {A B : Int} (eA : A = a) (eB : B = b) :
    Calls Try.prog 83 #[.iface T rv, .int .i64 A, .int .i64 B] w (Post blk (heapSort lt d a b) w0 w (.tuple #[])) := by
  subst eA eB
  exact post_lift (heapSort_any d w (M.at_ h hs) h.self hs a b hab hb) h (heapSort_size _ _ _)
end
end Go.Proofs.Ytaifmeajfldckaa
