/- sort's swapRange and rotate over an Interface value do what the plain ones do. Conditions: the ranges lie in the row; for rotate a < m < b. -/
import Derived.Test.YtaifmeajfldckaaMeth
namespace Go.Proofs.Ytaifmeajfldckaa
open Go.RowKit Go.Sort Go.Proofs

section
variable {lt : (Int × Int) → (Int × Int) → Bool} {T : TypeId} {rv : Value} {gl gs gn : Nat} {rl rs rn : Value} {blk n : Nat}

theorem swapLoop_go (a b k i : Nat) (d : Array (Int × Int)) (h : i < k) : Pl.swapLoop a b k i d = Pl.swapLoop a b k (i + 1) (swp d (a + i) (b + i)) := by
  rw [Pl.swapLoop, if_pos h]
theorem swapLoop_stop (a b k i : Nat) (d : Array (Int × Int)) (h : ¬ i < k) : Pl.swapLoop a b k i d = d := by
  rw [Pl.swapLoop, if_neg h]

set_option maxHeartbeats 4000000 in
set_option maxRecDepth 100000 in
theorem swapRange_any (d : Array (Int × Int)) (w : World) (M : Meth lt T rv gl gs gn rl rs rn blk n w) (h : Tn blk d w w) (hs : d.size = n) (a b k : Nat) (ha : a + k ≤ n) (hb : b + k ≤ n) :
    Calls Try.prog 96 #[.iface T rv, .int .i64 a, .int .i64 b, .int .i64 k] w fun e w' => e = .returned (.tuple #[]) ∧ Tn blk (Pl.swapRange d a b k) w w' := by
  have hn := M.hn
  have es := M.es
  have ms := M.ms
  have HM : Aside _ := M
  have H : Aside _ := h
  have HS : Aside _ := hs
  clear M h hs
  go_enter Try.func96, Try.ntmps96
  go_wp2
  go_loopw [8] (fun vi wr => ∃ (i : Nat) (dk : Array (Int × Int)), vi = .int .i64 i ∧ i ≤ k ∧ Aside (dk.size = n) ∧ Aside (Tn blk dk w wr) ∧ Aside (Pl.swapLoop a b k i dk = Pl.swapLoop a b k 0 d)) (fun vi _ => k - (intOf vi).toNat)
  case atStart => exact ⟨0, d, by go_num, by omega, HS, H, rfl⟩
  case round =>
    obtain ⟨i, dk, rfl, hik, hsk, hT, hO⟩ := hrel
    have o0 := hT.out.on
    by_cases hlt : i < k
    · go_wp2_with fail
      refine (HM.out.swapAt hT.out hsk.out (a + i) (b + i) (by omega) (by omega) (by omega) (by omega)).mono ?_
      rintro e w1 ⟨rfl, T1, o1, -⟩
      go_wp2_with fail
      go_roundw
      case rel => exact ⟨i + 1, swp dk (a + i) (b + i), by go_num, by omega, (size_swp _ _ _).trans hsk.out, T1, by rw [← hO.out, swapLoop_go a b k i dk hlt]; exact rfl⟩
      case measure => simp [intOf]; omega
    · go_wp2
      go_end0
      exact ⟨rfl, by unfold Pl.swapRange; rw [← hO.out, swapLoop_stop _ _ _ _ _ hlt]; exact hT.out⟩
theorem swapRange_at {w0 w : World} {d : Array (Int × Int)} (M : Meth lt T rv gl gs gn rl rs rn blk n w0) (h : Tn blk d w0 w) (hs : d.size = n) (a b k : Nat) (ha : a + k ≤ n) (hb : b + k ≤ n) {A B K : Int} (eA : A = a) (eB : B = b) (eK : K = k) :
    Calls Try.prog 96 #[.iface T rv, .int .i64 A, .int .i64 B, .int .i64 K] w (Post blk (Pl.swapRange d a b k) w0 w (.tuple #[])) := by
  subst eA eB eK
  exact post_lift (swapRange_any d w (M.at_ h hs) h.self hs a b k ha hb) h (Pl.swapRange_size _ _ _ _)

theorem rotLoop_eq (m i : Nat) (d : Array (Int × Int)) : Pl.rotLoop m i i d = Pl.swapRange d (m - i) m i := by
  rw [Pl.rotLoop, if_pos rfl]
theorem rotLoop_gt (m i j : Nat) (d : Array (Int × Int)) (h : j < i) (hj : 0 < j) : Pl.rotLoop m i j d = Pl.rotLoop m (i - j) j (Pl.swapRange d (m - i) m j) := by
  rw [Pl.rotLoop, if_neg (by omega), dif_neg (by omega), if_pos h]
theorem rotLoop_lt (m i j : Nat) (d : Array (Int × Int)) (h : i < j) (hi : 0 < i) : Pl.rotLoop m i j d = Pl.rotLoop m i (j - i) (Pl.swapRange d (m - i) (m + j - i) i) := by
  rw [Pl.rotLoop, if_neg (by omega), dif_neg (by omega), if_neg (by omega)]

set_option maxHeartbeats 4000000 in
set_option maxRecDepth 100000 in
theorem rotate_any (d : Array (Int × Int)) (w : World) (M : Meth lt T rv gl gs gn rl rs rn blk n w) (h : Tn blk d w w) (hs : d.size = n) (a m b : Nat) (ham : a < m) (hmb : m < b) (hb : b ≤ n) :
    Calls Try.prog 77 #[.iface T rv, .int .i64 a, .int .i64 m, .int .i64 b] w fun e w' => e = .returned (.tuple #[]) ∧ Tn blk (Pl.rotate d a m b) w w' := by
  have hn := M.hn
  have HM : Aside _ := M
  have H : Aside _ := h
  have HS : Aside _ := hs
  clear M h hs
  go_enter Try.func77, Try.ntmps77
  go_wp2
  go_loopw [8, 9] (fun vi vj wr => ∃ (i j : Nat) (dk : Array (Int × Int)), vi = .int .i64 i ∧ vj = .int .i64 j ∧ 0 < i ∧ 0 < j ∧ i ≤ m ∧ m + j ≤ n ∧ Aside (dk.size = n) ∧ Aside (Tn blk dk w wr) ∧ Aside (Pl.rotLoop m i j dk = Pl.rotLoop m (m - a) (b - m) d)) (fun vi vj _ => (intOf vi).toNat + (intOf vj).toNat)
  case atStart => exact ⟨m - a, b - m, d, by congr 1; omega, by congr 1; omega, by omega, by omega, by omega, by omega, HS, H, rfl⟩
  case round =>
    obtain ⟨i, j, dk, rfl, rfl, hi, hj, him, hjn, hsk, hT, hO⟩ := hrel
    by_cases hij : i = j
    · subst hij
      go_wp2_with fail
      refine (swapRange_at HM.out hT.out hsk.out (m - i) m i (by omega) (by omega) (by omega) (by omega) (by omega)).mono ?_
      rintro e w1 ⟨rfl, T1, o1, -⟩
      go_wp2_with fail
      go_end0
      exact ⟨rfl, by unfold Pl.rotate; rw [← hO.out, rotLoop_eq]; exact T1.out⟩
    · by_cases hgt : j < i
      · go_wp2_with fail
        refine (swapRange_at HM.out hT.out hsk.out (m - i) m j (by omega) (by omega) (by omega) (by omega) (by omega)).mono ?_
        rintro e w1 ⟨rfl, T1, o1, -⟩
        go_wp2_with fail
        go_roundw
        case rel => exact ⟨i - j, j, _, by congr 1; omega, rfl, by omega, by omega, by omega, by omega, (Pl.swapRange_size _ _ _ _).trans hsk.out, T1, by rw [← hO.out, rotLoop_gt m i j dk hgt hj]; exact rfl⟩
        case measure => simp [intOf]; omega
      · have hlt : i < j := by omega
        go_wp2_with fail
        refine (swapRange_at HM.out hT.out hsk.out (m - i) (m + j - i) i (by omega) (by omega) (by omega) (by omega) (by omega)).mono ?_
        rintro e w1 ⟨rfl, T1, o1, -⟩
        go_wp2_with fail
        go_roundw
        case rel => exact ⟨i, j - i, _, rfl, by congr 1; omega, by omega, by omega, by omega, by omega, (Pl.swapRange_size _ _ _ _).trans hsk.out, T1, by rw [← hO.out, rotLoop_lt m i j dk hlt hi]; exact rfl⟩
        case measure => simp [intOf]; omega
theorem rotate_at {w0 w : World} {d : Array (Int × Int)} (M : Meth lt T rv gl gs gn rl rs rn blk n w0) (h : Tn blk d w0 w) (hs : d.size = n) (a m b : Nat) (ham : a < m) (hmb : m < b) (hb : b ≤ n) {A B K : Int} (eA : A = a) (eB : B = m) (eK : K = b) :
    Calls Try.prog 77 #[.iface T rv, .int .i64 A, .int .i64 B, .int .i64 K] w (Post blk (Pl.rotate d a m b) w0 w (.tuple #[])) := by
  subst eA eB eK
  exact post_lift (rotate_any d w (M.at_ h hs) h.self hs a m b ham hmb hb) h (Pl.rotate_size _ _ _ _)
end
end Go.Proofs.Ytaifmeajfldckaa
