/- slices' swapRangeCmpFunc and rotateCmpFunc of items do what the plain ones do. Conditions: the ranges lie in the row; for rotate a < m < b. -/
import Derived.Test.YtaifmeajfldckaaCmp
import Derived.Test.YtaifmeajfldckaaRot
namespace Go.Proofs.Ytaifmeajfldckaa
open Go.RowKit Go.Sort Go.Proofs

section
variable {blk n c1 : Nat}

set_option maxHeartbeats 4000000 in
set_option maxRecDepth 100000 in
theorem tswapRange_any (d : Array (Int × Int)) (w : World) (h : Tn blk d w w) (hs : d.size = n) (hn : n ≤ 4096) (a b k : Nat) (ha : a + k ≤ n) (hb : b + k ≤ n) :
    Calls Try.prog 99 #[.slice (some ⟨blk, 0, none⟩) n c1, .int .i64 a, .int .i64 b, .int .i64 k, .func (.func 82) #[] #[]] w fun e w' => e = .returned (.tuple #[]) ∧ Tn blk (Pl.swapRange d a b k) w w' := by
  have H := aside h
  have HS := aside hs
  clear h hs
  go_enter Try.func99, Try.ntmps99
  go_wp2_with fail
  go_loopw [10] (fun vi wr => ∃ (i : Nat) (dk : Array (Int × Int)), vi = .int .i64 i ∧ i ≤ k ∧ Aside (dk.size = n) ∧ Aside (Tn blk dk w wr) ∧ Aside (Pl.swapLoop a b k i dk = Pl.swapLoop a b k 0 d)) (fun vi _ => k - (intOf vi).toNat)
  case atStart => exact ⟨0, d, by go_num, by omega, HS, H, rfl⟩
  case round =>
    obtain ⟨i, dk, rfl, hik, hsk, hT, hO⟩ := hrel
    by_cases hlt : i < k
    · 
      obtain ⟨X1, X1', Y1, Y1', -, -, a1, a1', b1, b1', p1, p1', q1, q1', ⟨u1, e1⟩, ⟨v1, e1'⟩, ⟨t1, e1''⟩, S1⟩ := exch hT.out (a + i) (b + i) (by rw [hsk.out]; omega) (by rw [hsk.out]; omega)
      have T1 := aside (S1 1)
      clear S1
      have g1_0a : ((a : Int) + (i : Int)).toNat = a + i := by omega
      have g1_0b : (0 : Int) ≤ (a : Int) + (i : Int) := by omega
      have g1_0c : (a : Int) + (i : Int) < (n : Int) := by omega
      have g1_0d : IntKind.i64.wrap ((a : Int) + (i : Int)) = (a : Int) + (i : Int) := by rw [IntKind.wrap_i64]; omega
      have g1_1a : ((b : Int) + (i : Int)).toNat = b + i := by omega
      have g1_1b : (0 : Int) ≤ (b : Int) + (i : Int) := by omega
      have g1_1c : (b : Int) + (i : Int) < (n : Int) := by omega
      have g1_1d : IntKind.i64.wrap ((b : Int) + (i : Int)) = (b : Int) + (i : Int) := by rw [IntKind.wrap_i64]; omega
      go_wp2_with fail
      go_region
      clear e1 e1' e1'' a1 a1' b1 b1' p1 p1' q1 q1' g1_0a g1_0b g1_0c g1_0d g1_1a g1_1b g1_1c g1_1d
      go_wp2_with fail
      go_roundw
      case rel => exact ⟨i + 1, swp dk (a + i) (b + i), by go_num, by omega, (size_swp _ _ _).trans hsk.out, T1, by rw [← hO.out, swapLoop_go a b k i dk hlt]; exact rfl⟩
      case measure => simp [intOf]; omega
    · go_wp2_with fail
      go_end0
      exact ⟨rfl, by unfold Pl.swapRange; rw [← hO.out, swapLoop_stop _ _ _ _ _ hlt]; exact hT.out⟩
theorem tswapRange_at {w0 w : World} {d : Array (Int × Int)} (h : Tn blk d w0 w) (hs : d.size = n) (hn : n ≤ 4096) (a b k : Nat) (ha : a + k ≤ n) (hb : b + k ≤ n) {A B K : Int} (eA : A = a) (eB : B = b) (eK : K = k) :
    Calls Try.prog 99 #[.slice (some ⟨blk, 0, none⟩) n c1, .int .i64 A, .int .i64 B, .int .i64 K, .func (.func 82) #[] #[]] w (TPost blk (Pl.swapRange d a b k) w0 w (.tuple #[])) := by
  subst eA eB eK
  exact tpost (tswapRange_any d w h.self hs hn a b k ha hb) h (Pl.swapRange_size _ _ _ _)

set_option maxHeartbeats 4000000 in
set_option maxRecDepth 100000 in
theorem trotate_any (d : Array (Int × Int)) (w : World) (h : Tn blk d w w) (hs : d.size = n) (hn : n ≤ 4096) (a m b : Nat) (ham : a < m) (hmb : m < b) (hb : b ≤ n) :
    Calls Try.prog 90 #[.slice (some ⟨blk, 0, none⟩) n c1, .int .i64 a, .int .i64 m, .int .i64 b, .func (.func 82) #[] #[]] w fun e w' => e = .returned (.tuple #[]) ∧ Tn blk (Pl.rotate d a m b) w w' := by
  have H := aside h
  have HS := aside hs
  clear h hs
  go_enter Try.func90, Try.ntmps90
  go_wp2_with fail
  go_loopw [10, 11] (fun vi vj wr => ∃ (i j : Nat) (dk : Array (Int × Int)), vi = .int .i64 i ∧ vj = .int .i64 j ∧ 0 < i ∧ 0 < j ∧ i ≤ m ∧ m + j ≤ n ∧ Aside (dk.size = n) ∧ Aside (Tn blk dk w wr) ∧ Aside (Pl.rotLoop m i j dk = Pl.rotLoop m (m - a) (b - m) d)) (fun vi vj _ => (intOf vi).toNat + (intOf vj).toNat)
  case atStart => exact ⟨m - a, b - m, d, by congr 1; omega, by congr 1; omega, by omega, by omega, by omega, by omega, HS, H, rfl⟩
  case round =>
    obtain ⟨i, j, dk, rfl, rfl, hi, hj, him, hjn, hsk, hT, hO⟩ := hrel
    by_cases hij : i = j
    · subst hij
      go_wp2_with fail
      refine (tswapRange_at hT.out hsk.out hn (m - i) m i (by omega) (by omega) (by omega) (by omega) (by omega)).mono ?_
      rintro e w1 ⟨rfl, T1, -⟩
      go_wp2_with fail
      go_end0
      exact ⟨rfl, by unfold Pl.rotate; rw [← hO.out, rotLoop_eq]; exact T1.out⟩
    · by_cases hgt : j < i
      · go_wp2_with fail
        refine (tswapRange_at hT.out hsk.out hn (m - i) m j (by omega) (by omega) (by omega) (by omega) (by omega)).mono ?_
        rintro e w1 ⟨rfl, T1, -⟩
        go_wp2_with fail
        go_roundw
        case rel => exact ⟨i - j, j, _, by congr 1; omega, rfl, by omega, by omega, by omega, by omega, (Pl.swapRange_size _ _ _ _).trans hsk.out, T1, by rw [← hO.out, rotLoop_gt m i j dk hgt hj]; exact rfl⟩
        case measure => simp [intOf]; omega
      · have hlt : i < j := by omega
        go_wp2_with fail
        refine (tswapRange_at hT.out hsk.out hn (m - i) (m + j - i) i (by omega) (by omega) (by omega) (by omega) (by omega)).mono ?_
        rintro e w1 ⟨rfl, T1, -⟩
        go_wp2_with fail
        go_roundw
        case rel => exact ⟨i, j - i, _, rfl, by congr 1; omega, by omega, by omega, by omega, by omega, (Pl.swapRange_size _ _ _ _).trans hsk.out, T1, by rw [← hO.out, rotLoop_lt m i j dk hlt hi]; exact rfl⟩
        case measure => simp [intOf]; omega
theorem trotate_at {w0 w : World} {d : Array (Int × Int)} (h : Tn blk d w0 w) (hs : d.size = n) (hn : n ≤ 4096) (a m b : Nat) (ham : a < m) (hmb : m < b) (hb : b ≤ n) {A B K : Int} (eA : A = a) (eB : B = m) (eK : K = b) :
    Calls Try.prog 90 #[.slice (some ⟨blk, 0, none⟩) n c1, .int .i64 A, .int .i64 B, .int .i64 K, .func (.func 82) #[] #[]] w (TPost blk (Pl.rotate d a m b) w0 w (.tuple #[])) := by
  subst eA eB eK
  exact tpost (trotate_any d w h.self hs hn a m b ham hmb hb) h (Pl.rotate_size _ _ _ _)
theorem box_some {v : Value} (hX : Box blk n v) (h0 : 0 < n) : ∃ c, v = .slice (some ⟨blk, 0, none⟩) n c := by
  obtain ⟨A, c, rfl, _, _, hA⟩ := hX
  rcases hA with hA | rfl
  · omega
  · exact ⟨c, rfl⟩
theorem trot_box (v : Value) (blk n : Nat) (hX : Box blk n v) (d : Array (Int × Int)) (w : World) (h : Tn blk d w w) (hs : d.size = n) (hn : n ≤ 4096) (a m b : Nat) (ham : a < m) (hmb : m < b) (hb : b ≤ n) :
    Calls Try.prog 90 #[v, .int .i64 a, .int .i64 m, .int .i64 b, .func (.func 82) #[] #[]] w fun e w' => e = .returned (.tuple #[]) ∧ Aside (Tn blk (Pl.rotate d a m b) w w') := by
  obtain ⟨c, rfl⟩ := box_some hX (by omega)
  exact trotate_any d w h hs hn a m b ham hmb hb
end
end Go.Proofs.Ytaifmeajfldckaa
