/- sort's stable over an Interface value does what the plain stable does. No condition. -/
import Derived.Test.YtaifmeajfldckaaSym
import Derived.Test.YtaifmeajfldckaaIns
namespace Go.Proofs.Ytaifmeajfldckaa
open Go.RowKit Go.Sort Go.Proofs

section
variable {lt : (Int × Int) → (Int × Int) → Bool}
theorem insBlocks_go {n a b : Nat} {d : Array (Int × Int)} (h : b ≤ n) : Pl.insBlocks lt n b (b + 20) (insertionSort lt d a b) = Pl.insBlocks lt n a b d := by
  conv => rhs; rw [Pl.insBlocks, dif_pos h]
theorem insBlocks_end {n a b : Nat} {d : Array (Int × Int)} (h : ¬ b ≤ n) : Pl.insBlocks lt n a b d = insertionSort lt d a n := by
  rw [Pl.insBlocks, dif_neg h]
theorem mergeRow_go {n s a b : Nat} {d : Array (Int × Int)} (h : b ≤ n) (h0 : 0 < s) : Pl.mergeRow lt n s b (b + 2 * s) (Pl.symMerge lt (2 * s) d a (a + s) b) = Pl.mergeRow lt n s a b d := by
  conv => rhs; rw [Pl.mergeRow, dif_pos ⟨h, h0⟩]
theorem mergeRow_end {n s a b : Nat} {d : Array (Int × Int)} (h : ¬ b ≤ n) (hm : a + s < n) : Pl.mergeRow lt n s a b d = Pl.symMerge lt (2 * s) d a (a + s) n := by
  rw [Pl.mergeRow, dif_neg (fun e => h e.1), if_pos hm]
theorem mergeRow_end' {n s a b : Nat} {d : Array (Int × Int)} (h : ¬ b ≤ n) (hm : ¬ a + s < n) : Pl.mergeRow lt n s a b d = d := by
  rw [Pl.mergeRow, dif_neg (fun e => h e.1), if_neg hm]
theorem mergeAll_go {n s : Nat} {d : Array (Int × Int)} (h : s < n) (h0 : 0 < s) : Pl.mergeAll lt n (2 * s) (Pl.mergeRow lt n s 0 (2 * s) d) = Pl.mergeAll lt n s d := by
  conv => rhs; rw [Pl.mergeAll, dif_pos ⟨h, h0⟩]
theorem mergeAll_end {n s : Nat} {d : Array (Int × Int)} (h : ¬ s < n) : Pl.mergeAll lt n s d = d := by
  rw [Pl.mergeAll, dif_neg (fun e => h e.1)]
theorem insBlocks_size {n : Nat} : ∀ (x a b : Nat) (d : Array (Int × Int)), n + 20 - b ≤ x → (Pl.insBlocks lt n a b d).size = d.size
  | 0, a, b, d, h => by rw [insBlocks_end (by omega), ins_size]
  | x + 1, a, b, d, h => by
    by_cases c : b ≤ n
    · rw [← insBlocks_go c, insBlocks_size x b (b + 20) _ (by omega), ins_size]
    · rw [insBlocks_end c, ins_size]
theorem mergeRow_size {n s : Nat} (h0 : 0 < s) : ∀ (x a b : Nat) (d : Array (Int × Int)), n + 2 * s - b ≤ x → (Pl.mergeRow lt n s a b d).size = d.size
  | 0, a, b, d, h => by
    by_cases m : a + s < n
    · rw [mergeRow_end (by omega) m, symMerge_size]
    · rw [mergeRow_end' (by omega) m]
  | x + 1, a, b, d, h => by
    by_cases c : b ≤ n
    · rw [← mergeRow_go c h0, mergeRow_size h0 x b (b + 2 * s) _ (by omega), symMerge_size]
    · by_cases m : a + s < n
      · rw [mergeRow_end c m, symMerge_size]
      · rw [mergeRow_end' c m]
theorem mergeAll_size {n : Nat} : ∀ (x s : Nat) (d : Array (Int × Int)), 0 < s → n - s ≤ x → (Pl.mergeAll lt n s d).size = d.size
  | 0, s, d, h0, h => by rw [mergeAll_end (by omega)]
  | x + 1, s, d, h0, h => by
    by_cases c : s < n
    · rw [← mergeAll_go c h0, mergeAll_size x (2 * s) _ (by omega) (by omega), mergeRow_size h0 _ _ _ _ (Nat.le_refl _)]
    · rw [mergeAll_end c]
theorem stable_size (lt : (Int × Int) → (Int × Int) → Bool) (d : Array (Int × Int)) (n : Nat) : (Pl.stable lt d n).size = d.size := by
  unfold Pl.stable
  rw [mergeAll_size _ _ _ (by omega) (Nat.le_refl _), insBlocks_size _ _ _ _ (Nat.le_refl _)]

variable {T : TypeId} {rv : Value} {gl gs gn : Nat} {rl rs rn : Value} {blk n : Nat}

set_option maxHeartbeats 8000000 in
set_option maxRecDepth 100000 in
theorem stable_any (d : Array (Int × Int)) (w : World) (M : Meth lt T rv gl gs gn rl rs rn blk n w) (h : Tn blk d w w) (hs : d.size = n) :
    Calls Try.prog 88 #[.iface T rv, .int .i64 n] w fun e w' => e = .returned (.tuple #[]) ∧ Tn blk (Pl.stable lt d n) w w' := by
  have hn := M.hn
  have HM : Aside _ := M
  have H : Aside _ := h
  have HS : Aside _ := hs
  clear M h hs
  go_enter Try.func88, Try.ntmps88
  go_wp2
  go_loopw [5, 6] (fun va vb wr => ∃ (a b : Nat) (dk : Array (Int × Int)), va = .int .i64 a ∧ vb = .int .i64 b ∧ b = a + 20 ∧ a ≤ n ∧ Aside (dk.size = n) ∧ Aside (Tn blk dk w wr) ∧ Aside (Pl.insBlocks lt n a b dk = Pl.insBlocks lt n 0 20 d)) (fun _ vb _ => n + 20 - (intOf vb).toNat)
  case atStart => exact ⟨0, 20, d, rfl, rfl, rfl, Nat.zero_le _, HS, H, rfl⟩
  case round =>
    obtain ⟨a, b, dk, rfl, rfl, hba, han, hsk, hT, hO⟩ := hrel
    by_cases hbn : b ≤ n
    · go_wp2_with fail
      refine (insertionSort_at HM.out hT.out hsk.out a b (by omega) hbn (by omega) (by omega)).mono ?_
      rintro e w1 ⟨rfl, T1, o1, -⟩
      go_wp2_with fail
      go_roundw
      case rel => exact ⟨b, b + 20, _, by first | rfl | (congr 1; omega), by first | rfl | (congr 1; omega), rfl, hbn, (ins_size _ _ _ _).trans hsk.out, T1, (insBlocks_go hbn).trans hO.out⟩
      case measure => simp [intOf]; omega
    · go_wp2_with fail
      refine (insertionSort_at HM.out hT.out hsk.out a n han (Nat.le_refl _) (by omega) (by omega)).mono ?_
      rintro e w1 ⟨rfl, T1, o1, -⟩
      have hD : Aside ((Pl.insBlocks lt n 0 20 d).size = n) := (insBlocks_size _ _ _ _ (Nat.le_refl _)).trans HS
      rw [← insBlocks_end (lt := lt) (b := b) hbn, hO.out] at T1
      have HR : Aside (Pl.mergeAll lt n 20 (Pl.insBlocks lt n 0 20 d) = Pl.stable lt d n) := rfl
      generalize Pl.insBlocks lt n 0 20 d = D at T1 hD HR
      clear hT hsk hO
      go_wp2_with fail
      go_loopw [4] (fun vs wr2 => ∃ (s : Nat) (dk : Array (Int × Int)), vs = .int .i64 s ∧ 0 < s ∧ s ≤ 2 * n + 20 ∧ Aside (dk.size = n) ∧ Aside (Tn blk dk w wr2) ∧ Aside (Pl.mergeAll lt n s dk = Pl.mergeAll lt n 20 D)) (fun vs _ => n - (intOf vs).toNat)
      case atStart => exact ⟨20, D, rfl, by omega, by omega, hD, T1, rfl⟩
      case round =>
        obtain ⟨s, dk, rfl, hs0, hsn, hsk, hT, hO⟩ := hrel
        by_cases hsl : s < n
        · go_wp2_with fail
          go_loopw [5, 6] (fun va vb wr3 => ∃ (a b : Nat) (dj : Array (Int × Int)), va = .int .i64 a ∧ vb = .int .i64 b ∧ b = a + 2 * s ∧ a ≤ n ∧ Aside (dj.size = n) ∧ Aside (Tn blk dj w wr3) ∧ Aside (Pl.mergeRow lt n s a b dj = Pl.mergeRow lt n s 0 (2 * s) dk)) (fun _ vb _ => n + 2 * s - (intOf vb).toNat)
          case atStart => exact ⟨0, 2 * s, dk, rfl, by go_num, by omega, Nat.zero_le _, hsk, hT, rfl⟩
          case round =>
            obtain ⟨a, b, dj, rfl, rfl, hba, han, hsj, hTj, hP⟩ := hrel
            by_cases hbn : b ≤ n
            · go_wp2_with fail
              refine (symMerge_at HM.out hTj.out hsj.out (2 * s) a (a + s) b (by omega) (by omega) (by omega) hbn (by omega) (by omega) (by omega)).mono ?_
              rintro e w1 ⟨rfl, T1, o1, -⟩
              go_wp2_with fail
              go_roundw
              case rel => exact ⟨b, b + 2 * s, _, by first | rfl | (congr 1; omega), by first | rfl | (congr 1; omega), rfl, hbn, (symMerge_size _ _ _ _ _ _).trans hsj.out, T1, (mergeRow_go hbn hs0).trans hP.out⟩
              case measure => simp [intOf]; omega
            · by_cases hm : a + s < n
              · go_wp2_with fail
                refine (symMerge_at HM.out hTj.out hsj.out (2 * s) a (a + s) n (by omega) (by omega) hm (Nat.le_refl _) (by omega) (by omega) (by omega)).mono ?_
                rintro e w1 ⟨rfl, T1, o1, -⟩
                go_wp2_with fail
                go_roundw
                case rel => exact ⟨2 * s, _, by go_num, by omega, by omega, (symMerge_size _ _ _ _ _ _).trans hsj.out, T1, by rw [← hO.out, ← mergeAll_go hsl hs0, ← hP.out, mergeRow_end hbn hm]; exact rfl⟩
                case measure => simp [intOf]; omega
              · go_wp2_with fail
                go_roundw
                case rel => exact ⟨2 * s, _, by go_num, by omega, by omega, hsj, hTj, by rw [← hO.out, ← mergeAll_go hsl hs0, ← hP.out, mergeRow_end' hbn hm]; exact rfl⟩
                case measure => simp [intOf]; omega
        · go_wp2_with fail
          go_end0
          exact ⟨rfl, by rw [← HR.out, ← hO.out, mergeAll_end hsl]; exact hT.out⟩
theorem stable_at {w0 w : World} {d : Array (Int × Int)} (M : Meth lt T rv gl gs gn rl rs rn blk n w0) (h : Tn blk d w0 w) (hs : d.size = n) {A : Int} (eA : A = n) :
    Calls Try.prog 88 #[.iface T rv, .int .i64 A] w (Post blk (Pl.stable lt d n) w0 w (.tuple #[])) := by
  subst eA
  exact post_lift (stable_any d w (M.at_ h hs) h.self hs) h (stable_size _ _ _)
end
end Go.Proofs.Ytaifmeajfldckaa
