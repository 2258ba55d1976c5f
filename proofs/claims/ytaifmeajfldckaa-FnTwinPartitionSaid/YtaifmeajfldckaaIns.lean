/- sort's insertionSort over an Interface value does what the plain insertionSort does. Conditions: 0 <= a <= b <= n. -/
import Derived.Test.YtaifmeajfldckaaMeth
namespace Go.Proofs.Ytaifmeajfldckaa
open Go.RowKit Go.Sort Go.Proofs

section
variable {lt : (Int × Int) → (Int × Int) → Bool} {T : TypeId} {rv : Value} {gl gs gn : Nat} {rl rs rn : Value} {blk n : Nat}

theorem insOuter_go (a b i : Nat) (d : Array (Int × Int)) (h : i < b) : insOuter lt a b i d = insOuter lt a b (i + 1) (insInner lt a i d) := by
  rw [insOuter, if_pos h]
theorem insOuter_stop (a b i : Nat) (d : Array (Int × Int)) (h : ¬ i < b) : insOuter lt a b i d = d := by
  rw [insOuter, if_neg h]
theorem insInner_go (a j : Nat) (d : Array (Int × Int)) (h : a < j) (hl : lt d[j]! d[j - 1]! = true) : insInner lt a j d = insInner lt a (j - 1) (swp d j (j - 1)) := by
  obtain ⟨k, rfl⟩ : ∃ k, j = k + 1 := ⟨j - 1, by omega⟩
  rw [insInner, if_pos (by simp only [Nat.add_sub_cancel] at hl; simp [hl]; omega)]
  rfl
theorem insInner_stop (a j : Nat) (d : Array (Int × Int)) (h : j ≤ a ∨ lt d[j]! d[j - 1]! = false) : insInner lt a j d = d := by
  rcases j with _ | k
  · rfl
  · rw [insInner, if_neg]
    simp only [Nat.add_sub_cancel] at h
    rcases h with h | h
    · simp; omega
    · simp [h]

set_option maxHeartbeats 4000000 in
set_option maxRecDepth 100000 in
theorem insertionSort_any (d : Array (Int × Int)) (w : World) (M : Meth lt T rv gl gs gn rl rs rn blk n w) (h : Tn blk d w w) (hs : d.size = n) (a b : Nat) (hab : a ≤ b) (hb : b ≤ n) :
    Calls Try.prog 76 #[.iface T rv, .int .i64 a, .int .i64 b] w fun e w' => e = .returned (.tuple #[]) ∧ Tn blk (insertionSort lt d a b) w w' := by
  have hn := M.hn
  have el := M.el
  have es := M.es
  have ml := M.ml
  have ms := M.ms
  have HM : Aside _ := M
  have H : Aside _ := h
  have HS : Aside _ := hs
  clear M h hs
  go_enter Try.func76, Try.ntmps76
  go_wp2
  go_loopw [6] (fun vi wr => ∃ (i : Nat) (dk : Array (Int × Int)), vi = .int .i64 i ∧ a < i ∧ i ≤ b + 1 ∧ Aside (dk.size = n) ∧ Aside (Tn blk dk w wr) ∧ Aside (insOuter lt a b i dk = insOuter lt a b (a + 1) d)) (fun vi _ => b + 1 - (intOf vi).toNat)
  case atStart => exact ⟨a + 1, d, by go_num, by omega, by omega, HS, H, rfl⟩
  case round =>
    obtain ⟨i, dk, rfl, hai, hib, hsk, hT, hO⟩ := hrel
    by_cases hlt : i < b
    · go_wp2
      go_loopw [7] (fun vj wr2 => ∃ (j : Nat) (dj : Array (Int × Int)), vj = .int .i64 j ∧ a ≤ j ∧ j ≤ i ∧ Aside (dj.size = n) ∧ Aside (Tn blk dj w wr2) ∧ Aside (insInner lt a j dj = insInner lt a i dk)) (fun vj _ => (intOf vj).toNat)
      case atStart => exact ⟨i, dk, rfl, by omega, Nat.le_refl _, hsk, hT, rfl⟩
      case round =>
        obtain ⟨j, dj, rfl, haj, hji, hsj, hTj, hI⟩ := hrel
        have o0 := hTj.out.on
        by_cases hja : a < j
        · cases hlv : lt dj[j]! dj[j - 1]! with
          | true =>
            have HV : Aside _ := hlv
            clear hlv
            go_wp2_with fail
            refine (HM.out.lessAt hTj.out hsj.out j (j - 1) (by omega) (by omega) HV.out (by omega) (by omega)).mono ?_
            rintro e w1 ⟨rfl, T1, o1, -⟩
            go_wp2_with fail
            refine (HM.out.swapAt T1.out hsj.out j (j - 1) (by omega) (by omega) (by omega) (by omega)).mono ?_
            rintro e w2 ⟨rfl, T2, o2, -⟩
            go_wp2_with fail
            go_roundw
            case rel =>
              exact ⟨j - 1, swp dj j (j - 1), by congr 1; omega, by omega, by omega, (size_swp _ _ _).trans hsj.out, T2, by rw [← hI.out, insInner_go a j dj hja HV.out]; exact rfl⟩
            case measure => simp [intOf]; omega
          | false =>
            have HV : Aside _ := hlv
            clear hlv
            go_wp2_with fail
            refine (HM.out.lessAt hTj.out hsj.out j (j - 1) (by omega) (by omega) HV.out (by omega) (by omega)).mono ?_
            rintro e w1 ⟨rfl, T1, o1, -⟩
            go_wp2_with fail
            go_roundw
            case rel => exact ⟨i + 1, dj, by go_num, by omega, by omega, hsj.out, T1, by rw [← hO.out, insOuter_go a b i dk hlt, ← hI.out, insInner_stop a j dj (Or.inr HV.out)]; exact rfl⟩
            case measure => simp [intOf]; omega
        · go_wp2
          go_roundw
          case rel => exact ⟨i + 1, dj, by go_num, by omega, by omega, hsj.out, hTj.out, by rw [← hO.out, insOuter_go a b i dk hlt, ← hI.out, insInner_stop a j dj (Or.inl (by omega))]; exact rfl⟩
          case measure => simp [intOf]; omega
    · go_wp2
      go_end0
      exact ⟨rfl, by unfold insertionSort; rw [← hO.out, insOuter_stop _ _ _ _ hlt]; exact hT.out⟩
theorem ins_size (lt : (Int × Int) → (Int × Int) → Bool) (d : Array (Int × Int)) (a b : Nat) : (insertionSort lt d a b).size = d.size := by
  have inner : ∀ (j : Nat) (d : Array (Int × Int)), (insInner lt a j d).size = d.size := by
    intro j
    induction j with
    | zero => intro d; rfl
    | succ j ih => intro d; rw [insInner]; split
                   · rw [ih, size_swp]
                   · rfl
  have outer : ∀ (k i : Nat) (d : Array (Int × Int)), b - i = k → (insOuter lt a b i d).size = d.size := by
    intro k
    induction k with
    | zero => intro i d h; rw [insOuter, if_neg (by omega)]
    | succ k ih => intro i d h; rw [insOuter, if_pos (by omega), ih _ _ (by omega), inner]
  exact outer _ _ _ rfl
theorem insertionSort_at {w0 w : World} {d : Array (Int × Int)} (M : Meth lt T rv gl gs gn rl rs rn blk n w0) (h : Tn blk d w0 w) (hs : d.size = n) (a b : Nat) (hab : a ≤ b) (hb : b ≤ n) {A B : Int} (eA : A = a) (eB : B = b) :
    Calls Try.prog 76 #[.iface T rv, .int .i64 A, .int .i64 B] w (Post blk (insertionSort lt d a b) w0 w (.tuple #[])) := by
  subst eA eB
  exact post_lift (insertionSort_any d w (M.at_ h hs) h.self hs a b hab hb) h (ins_size _ _ _ _)
end
end Go.Proofs.Ytaifmeajfldckaa
