/- slices' heapSortCmpFunc of items by keys over whatever value holds the row, the nil slice too. Condition: 0 <= a <= b <= n. -/
import Derived.Test.YtaifmeajfldckaaTwHeap
namespace Go.Proofs.Ytaifmeajfldckaa
open Go.RowKit Go.Sort Go.Proofs

set_option maxHeartbeats 2000000 in
theorem tsift_none (v f : Value) (w : World) : Calls Try.prog 98 #[v, .int .i64 0, .int .i64 0, .int .i64 0, f] w fun e w' => e = .returned (.tuple #[]) ∧ w = w' := by
  go_enter Try.func98, Try.ntmps98
  go_wp2
  go_rounds 1
  go_returns
  exact ⟨rfl, rfl⟩
set_option maxHeartbeats 2000000 in
theorem theap_none (v f : Value) (w : World) : Calls Try.prog 86 #[v, .int .i64 0, .int .i64 0, f] w fun e w' => e = .returned (.tuple #[]) ∧ w = w' := by
  go_enter Try.func86, Try.ntmps86
  go_wp2_with fail
  refine wp_loop_rounds 2 ?_
  rw [rounds_succ]
  go_wp2_with fail
  refine (tsift_none v f w).mono ?_
  rintro e w1 ⟨rfl, rfl⟩
  go_wp2_with fail
  rw [rounds_succ]
  go_wp2_with fail
  go_rounds 1
  go_end0
  exact ⟨rfl, rfl⟩
theorem heapSort_none {d : Array (Int × Int)} (h : d.size = 0) (a b : Nat) : heapSort ltK d a b = d := by
  have e := heapSort_size (lt := ltK) d a b
  rw [h] at e
  rw [Array.size_eq_zero_iff.1 e, Array.size_eq_zero_iff.1 h]
theorem theap_box (v : Value) (blk n : Nat) (hX : Box blk n v) (d : Array (Int × Int)) (w : World) (h : Tn blk d w w) (hs : d.size = n) (hn : n ≤ 4096) (a b : Nat) (hab : a ≤ b) (hb : b ≤ n) :
    Calls Try.prog 86 #[v, .int .i64 a, .int .i64 b, .func (.func 82) #[] #[]] w fun e w' => e = .returned (.tuple #[]) ∧ Aside (Tn blk (heapSort ltK d a b) w w') := by
  obtain ⟨A, c, rfl, hc, hm, h0⟩ := hX
  by_cases hz : n = 0
  · subst hz
    obtain rfl : b = 0 := by omega
    obtain rfl : a = 0 := by omega
    rw [heapSort_none hs]
    exact (theap_none _ _ w).mono fun e w' ⟨he, hw⟩ => ⟨he, by subst hw; exact h⟩
  · obtain rfl : A = some ⟨blk, 0, none⟩ := by rcases h0 with h0 | h0; exact absurd h0 hz; exact h0
    exact theap_any d w h hs hn a b hab hb
end Go.Proofs.Ytaifmeajfldckaa
