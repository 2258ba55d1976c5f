/- sort's reverseRange over an Interface value does what the plain one does. Condition: a < b <= n. -/
import Derived.Test.YtaifmeajfldckaaMeth
namespace Go.Proofs.Ytaifmeajfldckaa
open Go.RowKit Go.Sort Go.Proofs

section
variable {lt : (Int × Int) → (Int × Int) → Bool} {T : TypeId} {rv : Value} {gl gs gn : Nat} {rl rs rn : Value} {blk n : Nat}
theorem revLoop_go {i j : Nat} {d : Array (Int × Int)} (h : i < j) : reverseLoop (i + 1) (j - 1) (swp d i j) = reverseLoop i j d := by
  conv => rhs; rw [reverseLoop, if_pos h]
theorem revLoop_end {i j : Nat} {d : Array (Int × Int)} (h : ¬ i < j) : reverseLoop i j d = d := by
  rw [reverseLoop, if_neg h]
theorem revLoop_size : ∀ (k i j : Nat) (d : Array (Int × Int)), j - i ≤ k → (reverseLoop i j d).size = d.size
  | 0, i, j, d, h => by rw [revLoop_end (by omega)]
  | k + 1, i, j, d, h => by
    by_cases c : i < j
    · rw [← revLoop_go c, revLoop_size k _ _ _ (by omega), size_swp]
    · rw [revLoop_end c]
theorem reverseRange_size (d : Array (Int × Int)) (a b : Nat) : (reverseRange d a b).size = d.size := revLoop_size _ _ _ d (Nat.le_refl _)

set_option maxHeartbeats 4000000 in
set_option maxRecDepth 100000 in
theorem reverseRange_any (d : Array (Int × Int)) (w : World) (M : Meth lt T rv gl gs gn rl rs rn blk n w) (h : Tn blk d w w) (hs : d.size = n) (a b : Nat) (hab : a < b) (hb : b ≤ n) :
    Calls Try.prog 102 #[.iface T rv, .int .i64 a, .int .i64 b] w fun e w' => e = .returned (.tuple #[]) ∧ Tn blk (reverseRange d a b) w w' := by
  have hn := M.hn
  have es := M.es
  have ms := M.ms
  have HM : Aside _ := M
  have H : Aside _ := h
  have HS : Aside _ := hs
  clear M h hs
  go_enter Try.func102, Try.ntmps102
  go_wp2
  go_loopw [6, 7] (fun vi vj wr => ∃ (i j : Nat) (dk : Array (Int × Int)), vi = .int .i64 i ∧ vj = .int .i64 j ∧ i ≤ j + 1 ∧ j < n ∧ Aside (dk.size = n) ∧ Aside (Tn blk dk w wr) ∧ Aside (reverseLoop i j dk = reverseLoop a (b - 1) d)) (fun vi vj _ => (intOf vj).toNat + 1 - (intOf vi).toNat)
  case atStart => exact ⟨a, b - 1, d, rfl, by congr 1; omega, by omega, by omega, HS, H, rfl⟩
  case round =>
    obtain ⟨i, j, dk, rfl, rfl, hij, hjn, hsk, hT, hO⟩ := hrel
    have o0 := hT.out.on
    by_cases hlt : i < j
    · go_wp2_with fail
      refine (HM.out.swapAt hT.out hsk.out i j (by omega) (by omega) (by omega) (by omega)).mono ?_
      rintro e w1 ⟨rfl, T1, o1, -⟩
      go_wp2_with fail
      go_roundw
      case rel => exact ⟨i + 1, j - 1, _, by go_num, by congr 1; omega, by omega, by omega, (size_swp _ _ _).trans hsk.out, T1, (revLoop_go hlt).trans hO.out⟩
      case measure => simp [intOf]; omega
    · go_wp2_with fail
      go_end0
      exact ⟨rfl, by unfold reverseRange; rw [← hO.out, revLoop_end hlt]; exact hT.out⟩
theorem reverseRange_at {w0 w : World} {d : Array (Int × Int)} (M : Meth lt T rv gl gs gn rl rs rn blk n w0) (h : Tn blk d w0 w) (hs : d.size = n) (a b : Nat) (hab : a < b) (hb : b ≤ n) {A B : Int} (eA : A = a) (eB : B = b) :
    Calls Try.prog 102 #[.iface T rv, .int .i64 A, .int .i64 B] w (Post blk (reverseRange d a b) w0 w (.tuple #[])) := by
  subst eA eB
  exact post_lift (reverseRange_any d w (M.at_ h hs) h.self hs a b hab hb) h (reverseRange_size _ _ _)
end
end Go.Proofs.Ytaifmeajfldckaa
