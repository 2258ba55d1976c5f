/- The loops that copy a list of items into a list of another item type: each gives a new list of the same items. Condition: at most 4096 items. -/
import Derived.Test.YtaifmeajfldckaaLst
namespace Go.Proofs.Ytaifmeajfldckaa
open Go.RowKit Go.Sort Go.Proofs


theorem toSort_info : (Try.prog.info? 67).map (fun i => (i.zero, i.size, i.bytes)) = some (some (.agg #[.int .i64 0, .int .i64 0]), 2, 16) := by kernel_rfl
set_option maxHeartbeats 4000000 in
set_option maxRecDepth 100000 in
theorem toSort_any (v : Value) (d : Array (Int × Int)) (w : World) (B : Nat) (hv : Lst w B v d) (hB : B ≤ w.heap.size) (hn : d.size ≤ 4096) :
    Calls Try.prog 48 #[v] w fun e w' => ∃ v', e = .returned v' ∧ Own w' w.heap.size v' d ∧ Below w.heap.size w w' := by
  obtain ⟨i0, hi, hz0, hz1, hz2⟩ := info_parts toSort_info
  obtain ⟨A, c, rfl, hc, hm, h⟩ := hv
  rcases h with h0 | ⟨b, off, rfl, hbB, hcell⟩
  · rw [h0]
    go_enter Try.func48, Try.ntmps48
    go_wp2
    go_rounds 1
    go_ret
    exact ⟨_, rfl, .inl ⟨h0, rfl⟩, Below.refl _ _⟩
  · have HC : Aside _ := hcell
    clear hcell
    obtain ⟨n, hnd⟩ : ∃ n, d.size = n := ⟨_, rfl⟩
    rw [hnd] at hc hn ⊢
    have HN : Aside _ := hnd
    clear hnd
    go_enter Try.func48, Try.ntmps48
    go_wp2
    go_loopw [3, 8] (fun vo vi wr => ∃ k : Nat, k ≤ n ∧ vi = .int .i64 k ∧ wr.ownsRow w.heap.size 67 2 vo k ((d.toList.take k).flatMap encI) ∧ Below w.heap.size w wr ∧ Aside (k = 0 → vo = .slice none 0 0)) (fun _ vi _ => n - (intOf vi).toNat)
    case atStart => exact ⟨0, Nat.zero_le _, rfl, World.ownsRow_nil _ _ _ _, Below.refl _ _, fun _ => rfl⟩
    case round =>
      obtain ⟨k, hk, rfl, hown, hnx, hnil⟩ := hrel
      by_cases hlt : k < n
      · have c0 := (hnx.cell (p := ⟨b, off + k * 2, none⟩) (by exact Nat.lt_of_lt_of_le hbB hB)).trans (HC.out k (by rw [HN.out]; exact hlt)).1
        have c1 := (hnx.cell (p := ⟨b, off + k * 2 + 1, none⟩) (by exact Nat.lt_of_lt_of_le hbB hB)).trans (HC.out k (by rw [HN.out]; exact hlt)).2
        have HS : Aside _ := flat_snoc d k (by rw [HN.out]; exact hlt)
        generalize d[k]!.1 = x0 at c0 HS
        generalize d[k]!.2 = x1 at c1 HS
        have hsz := hnx.size
        go_wp2_with (at_builtin; refine wpList_append_own _ rfl _ _ 42 rfl w.heap.size 67 i0 (.agg #[.int .i64 0, .int .i64 0]) 2 16 Try.underlying42 hi hz0 hz1 hz2 rfl (by decide) _ _ _ rfl ((hown.alloc _).alloc _) ⟨wr.heap.size + 1, 0, none⟩ 1 1 [.int .i64 x0, .int .i64 x1] rfl rfl ?c1 ?c2 ?c3 ?c4 ?c5 ?_)
        case c1 =>
          intro j u hj
          match j, hj with
          | 0, hj => simp at hj; subst hj; simp [Addr.add]
          | 1, hj => simp at hj; subst hj; simp [Addr.add]
        case c2 => intro u hu; simp at hu; rcases hu with rfl | rfl <;> rfl
        case c3 => unfold maxLen; omega
        case c4 => omega
        case c5 => simp; omega
        · intro v' w1 hown' hgrow hv'
          have hb2 : Below w.heap.size w w1 := ((hnx.alloc hsz _).alloc (by simp; omega) _).grown hgrow (by simp; omega) (fun q hq => (hown.lt q hq).1)
          have HN2 : Aside (k + 1 = 0 → v' = .slice none 0 0) := fun e => by omega
          rw [← HS.out] at hown'
          clear hown hgrow hnx hnil c0 c1 HS hv'
          go_wp2
          go_roundw
          case rel => exact ⟨k + 1, by omega, by go_num, hown', hb2, HN2⟩
          case measure => simp [intOf]; omega
      · go_wp2
        go_ret
        obtain rfl : k = n := by omega
        refine ⟨_, rfl, ?_, hnx⟩
        refine own_of_owns (n := k) (d := d) (e := 67) ?_ HN.out.symm (fun e => hnil.out (by rw [← HN.out]; exact e))
        rwa [List.take_of_length_le (by simp; rw [HN.out]; exact Nat.le_refl _)] at hown


theorem ofSort_info : (Try.prog.info? 27).map (fun i => (i.zero, i.size, i.bytes)) = some (some (.agg #[.int .i64 0, .int .i64 0]), 2, 16) := by kernel_rfl
set_option maxHeartbeats 4000000 in
set_option maxRecDepth 100000 in
theorem ofSort_any (v : Value) (d : Array (Int × Int)) (w : World) (B : Nat) (hv : Lst w B v d) (hB : B ≤ w.heap.size) (hn : d.size ≤ 4096) :
    Calls Try.prog 50 #[v] w fun e w' => ∃ v', e = .returned v' ∧ Own w' w.heap.size v' d ∧ Below w.heap.size w w' := by
  obtain ⟨i0, hi, hz0, hz1, hz2⟩ := info_parts ofSort_info
  obtain ⟨A, c, rfl, hc, hm, h⟩ := hv
  rcases h with h0 | ⟨b, off, rfl, hbB, hcell⟩
  · rw [h0]
    go_enter Try.func50, Try.ntmps50
    go_wp2
    go_rounds 1
    go_ret
    exact ⟨_, rfl, .inl ⟨h0, rfl⟩, Below.refl _ _⟩
  · have HC : Aside _ := hcell
    clear hcell
    obtain ⟨n, hnd⟩ : ∃ n, d.size = n := ⟨_, rfl⟩
    rw [hnd] at hc hn ⊢
    have HN : Aside _ := hnd
    clear hnd
    go_enter Try.func50, Try.ntmps50
    go_wp2
    go_loopw [3, 8] (fun vo vi wr => ∃ k : Nat, k ≤ n ∧ vi = .int .i64 k ∧ wr.ownsRow w.heap.size 27 2 vo k ((d.toList.take k).flatMap encI) ∧ Below w.heap.size w wr ∧ Aside (k = 0 → vo = .slice none 0 0)) (fun _ vi _ => n - (intOf vi).toNat)
    case atStart => exact ⟨0, Nat.zero_le _, rfl, World.ownsRow_nil _ _ _ _, Below.refl _ _, fun _ => rfl⟩
    case round =>
      obtain ⟨k, hk, rfl, hown, hnx, hnil⟩ := hrel
      by_cases hlt : k < n
      · have c0 := (hnx.cell (p := ⟨b, off + k * 2, none⟩) (by exact Nat.lt_of_lt_of_le hbB hB)).trans (HC.out k (by rw [HN.out]; exact hlt)).1
        have c1 := (hnx.cell (p := ⟨b, off + k * 2 + 1, none⟩) (by exact Nat.lt_of_lt_of_le hbB hB)).trans (HC.out k (by rw [HN.out]; exact hlt)).2
        have HS : Aside _ := flat_snoc d k (by rw [HN.out]; exact hlt)
        generalize d[k]!.1 = x0 at c0 HS
        generalize d[k]!.2 = x1 at c1 HS
        have hsz := hnx.size
        go_wp2_with (at_builtin; refine wpList_append_own _ rfl _ _ 22 rfl w.heap.size 27 i0 (.agg #[.int .i64 0, .int .i64 0]) 2 16 Try.underlying22 hi hz0 hz1 hz2 rfl (by decide) _ _ _ rfl ((hown.alloc _).alloc _) ⟨wr.heap.size + 1, 0, none⟩ 1 1 [.int .i64 x0, .int .i64 x1] rfl rfl ?c1 ?c2 ?c3 ?c4 ?c5 ?_)
        case c1 =>
          intro j u hj
          match j, hj with
          | 0, hj => simp at hj; subst hj; simp [Addr.add]
          | 1, hj => simp at hj; subst hj; simp [Addr.add]
        case c2 => intro u hu; simp at hu; rcases hu with rfl | rfl <;> rfl
        case c3 => unfold maxLen; omega
        case c4 => omega
        case c5 => simp; omega
        · intro v' w1 hown' hgrow hv'
          have hb2 : Below w.heap.size w w1 := ((hnx.alloc hsz _).alloc (by simp; omega) _).grown hgrow (by simp; omega) (fun q hq => (hown.lt q hq).1)
          have HN2 : Aside (k + 1 = 0 → v' = .slice none 0 0) := fun e => by omega
          rw [← HS.out] at hown'
          clear hown hgrow hnx hnil c0 c1 HS hv'
          go_wp2
          go_roundw
          case rel => exact ⟨k + 1, by omega, by go_num, hown', hb2, HN2⟩
          case measure => simp [intOf]; omega
      · go_wp2
        go_ret
        obtain rfl : k = n := by omega
        refine ⟨_, rfl, ?_, hnx⟩
        refine own_of_owns (n := k) (d := d) (e := 27) ?_ HN.out.symm (fun e => hnil.out (by rw [← HN.out]; exact e))
        rwa [List.take_of_length_le (by simp; rw [HN.out]; exact Nat.le_refl _)] at hown


theorem toSlices_info : (Try.prog.info? 74).map (fun i => (i.zero, i.size, i.bytes)) = some (some (.agg #[.int .i64 0, .int .i64 0]), 2, 16) := by kernel_rfl
set_option maxHeartbeats 4000000 in
set_option maxRecDepth 100000 in
theorem toSlices_any (v : Value) (d : Array (Int × Int)) (w : World) (B : Nat) (hv : Lst w B v d) (hB : B ≤ w.heap.size) (hn : d.size ≤ 4096) :
    Calls Try.prog 59 #[v] w fun e w' => ∃ v', e = .returned v' ∧ Own w' w.heap.size v' d ∧ Below w.heap.size w w' := by
  obtain ⟨i0, hi, hz0, hz1, hz2⟩ := info_parts toSlices_info
  obtain ⟨A, c, rfl, hc, hm, h⟩ := hv
  rcases h with h0 | ⟨b, off, rfl, hbB, hcell⟩
  · rw [h0]
    go_enter Try.func59, Try.ntmps59
    go_wp2
    go_rounds 1
    go_ret
    exact ⟨_, rfl, .inl ⟨h0, rfl⟩, Below.refl _ _⟩
  · have HC : Aside _ := hcell
    clear hcell
    obtain ⟨n, hnd⟩ : ∃ n, d.size = n := ⟨_, rfl⟩
    rw [hnd] at hc hn ⊢
    have HN : Aside _ := hnd
    clear hnd
    go_enter Try.func59, Try.ntmps59
    go_wp2
    go_loopw [3, 8] (fun vo vi wr => ∃ k : Nat, k ≤ n ∧ vi = .int .i64 k ∧ wr.ownsRow w.heap.size 74 2 vo k ((d.toList.take k).flatMap encI) ∧ Below w.heap.size w wr ∧ Aside (k = 0 → vo = .slice none 0 0)) (fun _ vi _ => n - (intOf vi).toNat)
    case atStart => exact ⟨0, Nat.zero_le _, rfl, World.ownsRow_nil _ _ _ _, Below.refl _ _, fun _ => rfl⟩
    case round =>
      obtain ⟨k, hk, rfl, hown, hnx, hnil⟩ := hrel
      by_cases hlt : k < n
      · have c0 := (hnx.cell (p := ⟨b, off + k * 2, none⟩) (by exact Nat.lt_of_lt_of_le hbB hB)).trans (HC.out k (by rw [HN.out]; exact hlt)).1
        have c1 := (hnx.cell (p := ⟨b, off + k * 2 + 1, none⟩) (by exact Nat.lt_of_lt_of_le hbB hB)).trans (HC.out k (by rw [HN.out]; exact hlt)).2
        have HS : Aside _ := flat_snoc d k (by rw [HN.out]; exact hlt)
        generalize d[k]!.1 = x0 at c0 HS
        generalize d[k]!.2 = x1 at c1 HS
        have hsz := hnx.size
        go_wp2_with (at_builtin; refine wpList_append_own _ rfl _ _ 54 rfl w.heap.size 74 i0 (.agg #[.int .i64 0, .int .i64 0]) 2 16 Try.underlying54 hi hz0 hz1 hz2 rfl (by decide) _ _ _ rfl ((hown.alloc _).alloc _) ⟨wr.heap.size + 1, 0, none⟩ 1 1 [.int .i64 x0, .int .i64 x1] rfl rfl ?c1 ?c2 ?c3 ?c4 ?c5 ?_)
        case c1 =>
          intro j u hj
          match j, hj with
          | 0, hj => simp at hj; subst hj; simp [Addr.add]
          | 1, hj => simp at hj; subst hj; simp [Addr.add]
        case c2 => intro u hu; simp at hu; rcases hu with rfl | rfl <;> rfl
        case c3 => unfold maxLen; omega
        case c4 => omega
        case c5 => simp; omega
        · intro v' w1 hown' hgrow hv'
          have hb2 : Below w.heap.size w w1 := ((hnx.alloc hsz _).alloc (by simp; omega) _).grown hgrow (by simp; omega) (fun q hq => (hown.lt q hq).1)
          have HN2 : Aside (k + 1 = 0 → v' = .slice none 0 0) := fun e => by omega
          rw [← HS.out] at hown'
          clear hown hgrow hnx hnil c0 c1 HS hv'
          go_wp2
          go_roundw
          case rel => exact ⟨k + 1, by omega, by go_num, hown', hb2, HN2⟩
          case measure => simp [intOf]; omega
      · go_wp2
        go_ret
        obtain rfl : k = n := by omega
        refine ⟨_, rfl, ?_, hnx⟩
        refine own_of_owns (n := k) (d := d) (e := 74) ?_ HN.out.symm (fun e => hnil.out (by rw [← HN.out]; exact e))
        rwa [List.take_of_length_le (by simp; rw [HN.out]; exact Nat.le_refl _)] at hown


theorem ofSlices_info : (Try.prog.info? 27).map (fun i => (i.zero, i.size, i.bytes)) = some (some (.agg #[.int .i64 0, .int .i64 0]), 2, 16) := by kernel_rfl
set_option maxHeartbeats 4000000 in
set_option maxRecDepth 100000 in
theorem ofSlices_any (v : Value) (d : Array (Int × Int)) (w : World) (B : Nat) (hv : Lst w B v d) (hB : B ≤ w.heap.size) (hn : d.size ≤ 4096) :
    Calls Try.prog 57 #[v] w fun e w' => ∃ v', e = .returned v' ∧ Own w' w.heap.size v' d ∧ Below w.heap.size w w' := by
  obtain ⟨i0, hi, hz0, hz1, hz2⟩ := info_parts ofSlices_info
  obtain ⟨A, c, rfl, hc, hm, h⟩ := hv
  rcases h with h0 | ⟨b, off, rfl, hbB, hcell⟩
  · rw [h0]
    go_enter Try.func57, Try.ntmps57
    go_wp2
    go_rounds 1
    go_ret
    exact ⟨_, rfl, .inl ⟨h0, rfl⟩, Below.refl _ _⟩
  · have HC : Aside _ := hcell
    clear hcell
    obtain ⟨n, hnd⟩ : ∃ n, d.size = n := ⟨_, rfl⟩
    rw [hnd] at hc hn ⊢
    have HN : Aside _ := hnd
    clear hnd
    go_enter Try.func57, Try.ntmps57
    go_wp2
    go_loopw [3, 8] (fun vo vi wr => ∃ k : Nat, k ≤ n ∧ vi = .int .i64 k ∧ wr.ownsRow w.heap.size 27 2 vo k ((d.toList.take k).flatMap encI) ∧ Below w.heap.size w wr ∧ Aside (k = 0 → vo = .slice none 0 0)) (fun _ vi _ => n - (intOf vi).toNat)
    case atStart => exact ⟨0, Nat.zero_le _, rfl, World.ownsRow_nil _ _ _ _, Below.refl _ _, fun _ => rfl⟩
    case round =>
      obtain ⟨k, hk, rfl, hown, hnx, hnil⟩ := hrel
      by_cases hlt : k < n
      · have c0 := (hnx.cell (p := ⟨b, off + k * 2, none⟩) (by exact Nat.lt_of_lt_of_le hbB hB)).trans (HC.out k (by rw [HN.out]; exact hlt)).1
        have c1 := (hnx.cell (p := ⟨b, off + k * 2 + 1, none⟩) (by exact Nat.lt_of_lt_of_le hbB hB)).trans (HC.out k (by rw [HN.out]; exact hlt)).2
        have HS : Aside _ := flat_snoc d k (by rw [HN.out]; exact hlt)
        generalize d[k]!.1 = x0 at c0 HS
        generalize d[k]!.2 = x1 at c1 HS
        have hsz := hnx.size
        go_wp2_with (at_builtin; refine wpList_append_own _ rfl _ _ 22 rfl w.heap.size 27 i0 (.agg #[.int .i64 0, .int .i64 0]) 2 16 Try.underlying22 hi hz0 hz1 hz2 rfl (by decide) _ _ _ rfl ((hown.alloc _).alloc _) ⟨wr.heap.size + 1, 0, none⟩ 1 1 [.int .i64 x0, .int .i64 x1] rfl rfl ?c1 ?c2 ?c3 ?c4 ?c5 ?_)
        case c1 =>
          intro j u hj
          match j, hj with
          | 0, hj => simp at hj; subst hj; simp [Addr.add]
          | 1, hj => simp at hj; subst hj; simp [Addr.add]
        case c2 => intro u hu; simp at hu; rcases hu with rfl | rfl <;> rfl
        case c3 => unfold maxLen; omega
        case c4 => omega
        case c5 => simp; omega
        · intro v' w1 hown' hgrow hv'
          have hb2 : Below w.heap.size w w1 := ((hnx.alloc hsz _).alloc (by simp; omega) _).grown hgrow (by simp; omega) (fun q hq => (hown.lt q hq).1)
          have HN2 : Aside (k + 1 = 0 → v' = .slice none 0 0) := fun e => by omega
          rw [← HS.out] at hown'
          clear hown hgrow hnx hnil c0 c1 HS hv'
          go_wp2
          go_roundw
          case rel => exact ⟨k + 1, by omega, by go_num, hown', hb2, HN2⟩
          case measure => simp [intOf]; omega
      · go_wp2
        go_ret
        obtain rfl : k = n := by omega
        refine ⟨_, rfl, ?_, hnx⟩
        refine own_of_owns (n := k) (d := d) (e := 27) ?_ HN.out.symm (fun e => hnil.out (by rw [← HN.out]; exact e))
        rwa [List.take_of_length_le (by simp; rw [HN.out]; exact Nat.le_refl _)] at hown

end Go.Proofs.Ytaifmeajfldckaa
