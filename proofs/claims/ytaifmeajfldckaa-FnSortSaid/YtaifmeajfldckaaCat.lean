/- slices.Grow of nil and slices.Concat of four lists of items. Condition: the lists have at most 4096 items together. -/
import Derived.Test.YtaifmeajfldckaaSpec
namespace Go.Proofs.Ytaifmeajfldckaa
open Go.RowKit Go.Sort Go.Proofs

/-- 'append' onto a list of its own, of whatever list. -/
theorem cat_run {w : World} {B : Nat} {d : Array (Int × Int)} (t ty e : TypeId) (i : TypeInfo) (ht : Try.prog.underlying t = some (.slice e)) (hi : Try.prog.info? e = some i) (hz : i.zero = some (.agg #[.int .i64 0, .int .i64 0])) (hsize : i.size = 2) (hby : i.bytes = 16)
    (v : Value) (base n : Nat) (xs : List Value) (hown : w.ownsRow base e 2 v n xs) (hbase : base ≤ w.heap.size) {x : Value} (hv : Lst w B x d) (hn : n + d.size ≤ 4096) :
    ∃ v' w', (Builtin.append_ #[t, t] ty #[v, x]).run Try.prog w = .ok v' w' ∧ w'.ownsRow base e 2 v' (n + d.size) (xs ++ d.toList.flatMap encI) ∧ w.grownBy w' v.ownBlock ∧ (v' = .slice none 0 0 ↔ v = .slice none 0 0 ∧ d.size = 0) := by
  obtain ⟨A, c, rfl, hc, hm, h⟩ := hv
  cases A with
  | none =>
    have h0 : d.size = 0 := by
      rcases h with h | ⟨b, off, hab, _⟩
      · exact h
      · cases hab
    have hd : d.toList = [] := by rw [← List.length_eq_zero_iff, Array.length_toList]; exact h0
    have hr : (Builtin.append_ #[t, t] ty #[v, .slice none 0 c]).run Try.prog w = .ok v w := by
      rcases hown.2 with ⟨rfl, _⟩ | ⟨g, cap, cur, rfl, _, _, hnc, _⟩
      · simp [Builtin.append_, run_underlying ht, sizeOf, typeInfo, hi, Builtin.lenOf, Builtin.firstCells]
      · simp [Builtin.append_, run_underlying ht, sizeOf, typeInfo, hi, Builtin.lenOf, Builtin.firstCells, hnc, storeCells]
    rw [h0, hd]
    refine ⟨v, w, hr, by simpa using hown, ⟨rfl, rfl, rfl, Nat.le_refl _, fun _ _ _ => rfl⟩, by simp⟩
  | some a =>
    have hcells : ∀ j u, (d.toList.flatMap encI)[j]? = some u → w.cell? (a.add j) = some u := by
      rcases h with h0 | ⟨b, off, hab, _, hcell⟩
      · intro j u hj
        have : d.toList = [] := by rw [← List.length_eq_zero_iff, Array.length_toList]; exact h0
        rw [this] at hj; simp at hj
      · injection hab with hab; subst hab; exact lst_cells hcell
    exact run_append_own (P := Try.prog) w base t ty e i _ 2 16 ht hi hz hsize hby rfl (by decide) v n xs hown a d.size c (d.toList.flatMap encI) (by rw [flat_len, Array.length_toList]) hcells (flat_one d) (by unfold maxLen; omega) (by omega) hbase

set_option maxHeartbeats 2000000 in
theorem grow_any (n : Nat) (w : World) (hn : n ≤ 4096) :
    Calls Try.prog 54 #[.slice none 0 0, .int .i64 n] w fun e w' => ∃ v, e = .returned v ∧ w'.ownsRow w.heap.size 27 2 v 0 [] ∧ Below w.heap.size w w' ∧ (n = 0 → v = .slice none 0 0) := by
  obtain ⟨i0, hi, hz0, hz1, hz2⟩ := info_parts iItem_info
  by_cases h0 : n = 0
  · subst h0
    go_enter Try.func54, Try.ntmps54
    go_wp2
    go_ret
    exact ⟨_, rfl, World.ownsRow_nil _ _ _ _, Below.refl _ _, fun _ => rfl⟩
  · have hr : ∀ ty, (Builtin.append_ #[22, 3] ty #[.slice none 0 0, .int .i64 n]).run Try.prog w =
        .ok (.slice (some ⟨w.heap.size, 0, none⟩) n (grownCap w n 0 27)) (w.drew.alloc (.cells (Builtin.zeroCells #[.int .i64 0, .int .i64 0] n ++ Builtin.zeroCells #[.int .i64 0, .int .i64 0] (grownCap w n 0 27 - n)) 27)) := fun ty =>
      Lib.run_append_nil_zeros w 22 3 ty 27 i0 _ .i64 .i64 Try.underlying22 Try.underlying3 hi hz0 n (by omega) (by omega) (by omega) (by rw [hz2]; omega)
    have hG := grownCap_le_maxLen w n 0 27 (by unfold maxLen; omega)
    have hGn : n ≤ grownCap w n 0 27 := grownCap_ge w _ _ _
    generalize grownCap w n 0 27 = G at hr hG hGn
    have hsz : (Builtin.zeroCells #[.int .i64 0, .int .i64 0] n ++ Builtin.zeroCells #[.int .i64 0, .int .i64 0] (G - n)).size = G * 2 := by
      simp [Builtin.zeroCells]; omega
    generalize Builtin.zeroCells #[.int .i64 0, .int .i64 0] n ++ Builtin.zeroCells #[.int .i64 0, .int .i64 0] (G - n) = cs at hr hsz
    have HR : Aside (∀ ty, _) := hr
    have HE : Aside (∃ v, Ending.returned (Value.slice (some ⟨w.heap.size, 0, none⟩) 0 G) = .returned v ∧ (w.drew.alloc (.cells cs 27)).ownsRow w.heap.size 27 2 v 0 [] ∧ Below w.heap.size w (w.drew.alloc (.cells cs 27)) ∧ (n = 0 → v = .slice none 0 0)) :=
      ⟨_, rfl, World.ownsRow_made w.drew cs G (Nat.le_refl _) hG hsz, (below_drewN w 1).alloc (Nat.le_refl _) _, fun e => absurd e h0⟩
    have hG63 : G ≤ 9223372036854775807 := by unfold maxLen at hG; omega
    clear hr hi hz0 hz1 hz2 hG hsz
    go_enter Try.func54, Try.ntmps54
    go_wp2_with (at_builtin; refine Lib.wpList_append_run _ rfl _ _ _ _ rfl _ _ rfl rfl _ _ (HR.out _) ?_)
    go_ret
    exact HE.out

def tot (ds : Nat → Array (Int × Int)) : Nat → Nat
  | 0 => 0
  | k + 1 => tot ds k + (ds k).size
def cat (ds : Nat → Array (Int × Int)) : Nat → List (Int × Int)
  | 0 => []
  | k + 1 => cat ds k ++ (ds k).toList
theorem tot_mono (ds : Nat → Array (Int × Int)) {k m : Nat} (h : k ≤ m) : tot ds k ≤ tot ds m := by
  induction h with
  | refl => exact Nat.le_refl _
  | step _ ih => exact Nat.le_trans ih (Nat.le_add_right _ _)
theorem cat_len (ds : Nat → Array (Int × Int)) (k : Nat) : (cat ds k).length = tot ds k := by
  induction k with
  | zero => rfl
  | succ k ih => simp [cat, tot, ih]

set_option maxHeartbeats 4000000 in
set_option maxRecDepth 100000 in
theorem concat_any (g B : Nat) (ds : Nat → Array (Int × Int)) (w : World) (hB : B ≤ w.heap.size) (hg : g < w.heap.size) (hn : tot ds 4 ≤ 4096)
    (hs : ∀ k, k < 4 → ∃ A c, w.cell? ⟨g, k, none⟩ = some (.slice A (ds k).size c) ∧ Lst w B (.slice A (ds k).size c) (ds k)) :
    Calls Try.prog 26 #[.slice (some ⟨g, 0, none⟩) 4 4] w fun e w' => ∃ v', e = .returned v' ∧ Own w' w.heap.size v' (cat ds 4).toArray ∧ Below w.heap.size w w' := by
  obtain ⟨i0, hi, hz0, hz1, hz2⟩ := info_parts iItem_info
  have HS : Aside (∀ k, _) := hs
  clear hs
  have hm : ∀ k, k ≤ 4 → tot ds k ≤ 4096 := fun k hk => Nat.le_trans (tot_mono ds hk) hn
  have HM : Aside (∀ k, _) := hm
  clear hm
  have HI := aside hi
  clear hi
  go_enter Try.func26, Try.ntmps26
  go_wp2_with fail
  go_loopw [3, 11] (fun vs vi wr => ∃ k : Nat, k ≤ 4 ∧ vs = .int .i64 (tot ds k) ∧ vi = .int .i64 k ∧ wr = w) (fun _ vi _ => 4 - (intOf vi).toNat)
  case atStart => exact ⟨0, by omega, rfl, rfl, rfl⟩
  case round =>
    obtain ⟨k, hk, rfl, rfl, hw⟩ := hrel
    obtain rfl : w = wr := hw.symm
    by_cases hlt : k < 4
    · obtain ⟨A, c, hcell, -⟩ := HS.out k hlt
      have hk1 : tot ds k + (ds k).size ≤ 4096 := HM.out (k + 1) (by omega)
      go_wp2_with fail
      go_roundw
      case rel => exact ⟨k + 1, by omega, by go_num, by go_num, trivial⟩
      case measure => simp [intOf]; omega
    · obtain rfl : k = 4 := by omega
      clear hlt hk
      go_wp2_with fail
      refine (grow_any (tot ds 4) _ hn).mono ?_
      rintro e w1 ⟨v1, rfl, ho1, hb1, hz⟩
      go_wp2_with fail
      go_loopw [6, 27] (fun vo vi wr' => ∃ k : Nat, k ≤ 4 ∧ vi = .int .i64 k ∧ Aside (wr'.ownsRow w.heap.size 27 2 vo (tot ds k) ((cat ds k).flatMap encI)) ∧ Aside (Below w.heap.size w wr') ∧ Aside (tot ds 4 = 0 → vo = .slice none 0 0)) (fun _ vi _ => 4 - (intOf vi).toNat)
      case atStart => exact ⟨0, by omega, rfl, ho1, hb1, hz⟩
      case round =>
        obtain ⟨k, hk, rfl, hown, hnx, hnil⟩ := hrel
        by_cases hlt : k < 4
        · obtain ⟨A, c, hcell0, hl⟩ := HS.out k hlt
          have hcell := (hnx.out.cell (p := ⟨g, k, none⟩) hg).trans hcell0
          have hk1 : tot ds k + (ds k).size ≤ 4096 := HM.out (k + 1) (by omega)
          obtain ⟨v', w', hr, h2, h3, h4⟩ := cat_run 22 22 _ i0 Try.underlying22 HI.out hz0 hz1 hz2 _ _ _ _ hown.out hnx.out.size (hl.below (hnx.out.mono hB)) hk1
          have HR := aside hr
          have h2' : Aside (w'.ownsRow w.heap.size 27 2 v' (tot ds (k + 1)) ((cat ds (k + 1)).flatMap encI)) := by
            have e : (cat ds (k + 1)).flatMap encI = (cat ds k).flatMap encI ++ (ds k).toList.flatMap encI := by simp [cat]
            rw [e]; exact h2
          have h3' : Aside (Below w.heap.size w w') := hnx.out.grown h3 hnx.out.size (fun q hq => (hown.out.lt q hq).1)
          have h4' : Aside (tot ds 4 = 0 → v' = .slice none 0 0) := fun e => h4.2 ⟨hnil.out e, by have h5 : tot ds k + (ds k).size ≤ tot ds 4 := tot_mono ds (show k + 1 ≤ 4 by omega); omega⟩
          clear hr h2 h3 h4 hl hcell0 hown
          go_wp2_with (at_builtin; refine Lib.wpList_append_run _ rfl _ _ _ _ rfl _ _ rfl rfl _ _ HR.out ?_)
          go_roundw
          case rel => exact ⟨k + 1, by omega, by go_num, h2', h3', h4'⟩
          case measure => simp [intOf]; omega
        · obtain rfl : k = 4 := by omega
          clear hlt hk
          go_wp2_with fail
          go_ret
          refine ⟨_, rfl, own_of_owns hown.out (by simp [cat_len]) (fun e => hnil.out (by rw [← cat_len]; simpa using e)), hnx.out⟩
end Go.Proofs.Ytaifmeajfldckaa
