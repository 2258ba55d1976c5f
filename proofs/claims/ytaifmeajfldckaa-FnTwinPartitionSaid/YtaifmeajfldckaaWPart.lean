/- sort's Partition and impl.Partition give what the plain partition gives; the pivot lies at the new place. Condition: at most 4096 items, a <= pivot < b <= n. -/
import Derived.Test.YtaifmeajfldckaaPart
import Derived.Test.YtaifmeajfldckaaRowed
namespace Go.Proofs.Ytaifmeajfldckaa
open Go.RowKit Go.Sort Go.Proofs

theorem part_pivot (lt : (Int × Int) → (Int × Int) → Bool) (d : Array (Int × Int)) (a b pivot : Nat) (hap : a ≤ pivot) (hpb : pivot < b) (hb : b ≤ d.size) :
    (partition lt d a b pivot).2.2[(partition lt d a b pivot).1]! = d[pivot]! := by
  rw [partition_fst, partition_arr]
  have hb0 : b ≤ (swp d a pivot).size := by rw [size_swp]; exact hb
  obtain ⟨r1, r2, r3, -, -⟩ := partLoop_spec lt a b _ (a + 1) (b - 1) (swp d a pivot) (Nat.le_refl _) (Nat.lt_succ_self a) (by omega) (by omega) hb0 (fun t h1 h2 => by omega) (fun t h1 h2 => by omega)
  generalize partLoop lt a (a + 1) (b - 1) (swp d a pivot) = res at r1 r2 r3 ⊢
  obtain ⟨r, d'⟩ := res
  simp only at r1 r2 r3 ⊢
  have hs : d'.size = d.size := by rw [r3.1, size_swp]
  have ea : d'[a]! = (swp d a pivot)[a]! := r3.2.1 a (Or.inl (Nat.lt_succ_self a))
  have ep : (swp d a pivot)[a]! = d[pivot]! := by
    rw [swp_get d (by omega) (by omega)]
    by_cases e : a = pivot
    · subst e; simp
    · simp [e]
  rw [← ep, ← ea, swp_get d' (by omega) (by omega)]
  by_cases e : r = a
  · subst e; simp
  · simp [e]

set_option maxHeartbeats 1000000 in
theorem xPart_any (v : Value) (d : Array (Int × Int)) (w : World) (B : Nat) (hv : Lst w B v d) (hn : d.size ≤ 4096) (a b p : Nat) (hap : a ≤ p) (hpb : p < b) (hb : b ≤ d.size) :
    Calls Try.prog 55 #[v, .int .i64 a, .int .i64 b, .int .i64 p] w fun e w' => ∃ v', e = .returned (.tuple #[v', .int .i64 (partition ltK d a b p).1, .bool (partition ltK d a b p).2.1]) ∧ Lst w' w'.heap.size v' (partition ltK d a b p).2.2 ∧ Below w.heap.size w w' := by
  obtain ⟨r, hr⟩ : ∃ r, partition ltK d a b p = r := ⟨_, rfl⟩
  have hrz : Aside (r.2.2.size = d.size) := by rw [← hr]; exact Pl.partition_size _ _ _ _
  rw [hr]
  have HR := aside hr
  clear hr
  have hcl := cloneSort_any v d w B hv hn
  go_enter Try.func55, Try.ntmps55
  go_wp2_with fail
  refine hcl.mono ?_
  rintro e w1 ⟨v1, rfl, ho, hb1⟩
  obtain ⟨blk, hblk, T1, hI, hX⟩ := ho.row2 hb1.size
  have M := items_meth v1 blk d.size hI (by omega) w1
  have hs1 : d.size = d.size := rfl
  have HC := aside (partition_at (w := w1) M T1 hs1 a b p hap hpb hb rfl rfl rfl)
  clear hs1 hcl
  go_wp2_with fail
  refine HC.out.mono ?_
  rw [HR.out]
  rintro e w2 ⟨rfl, T2, o2, -⟩
  go_wp2_with fail
  go_returns
  exact ⟨_, rfl, T2.out.lst hrz.out hX (Nat.le_refl _), hb1.trans (T2.out.belowRow hblk hb1.size)⟩

set_option maxHeartbeats 1000000 in
theorem iPart_any (v : Value) (d : Array (Int × Int)) (w : World) (B : Nat) (hv : Lst w B v d) (hB0 : B ≤ w.heap.size) (hn : d.size ≤ 4096) (a b p : Nat) (hap : a ≤ p) (hpb : p < b) (hb : b ≤ d.size) :
    Calls Try.prog 27 #[v, .int .i64 a, .int .i64 b, .int .i64 p] w fun e w' => ∃ v', e = .returned (.tuple #[v', .int .i64 (partition ltK d a b p).1, .bool (partition ltK d a b p).2.1]) ∧ Lst w' w'.heap.size v' (partition ltK d a b p).2.2 ∧ Below w.heap.size w w' := by
  obtain ⟨r, hr⟩ : ∃ r, partition ltK d a b p = r := ⟨_, rfl⟩
  have hrs : r.2.2.size ≤ 4096 := by rw [← hr, Pl.partition_size _ _ _ _]; exact hn
  rw [hr]
  have HR := aside hr
  clear hr
  have hto := toSort_any v d w B hv hB0 hn
  go_enter Try.func27, Try.ntmps27
  go_wp2_with fail
  refine hto.mono ?_
  rintro e w1 ⟨v1, rfl, ho, hb1⟩
  have hx := xPart_any v1 d w1 w1.heap.size (ho.lst (Nat.le_refl _)) hn a b p hap hpb hb
  rw [HR.out] at hx
  clear hto
  go_wp2_with fail
  refine hx.mono ?_
  rintro e w2 ⟨v2, rfl, hl2, hb2⟩
  have hof := ofSort_any v2 r.2.2 w2 w2.heap.size hl2 (Nat.le_refl _) hrs
  clear hx
  go_wp2_with fail
  refine hof.mono ?_
  rintro e w3 ⟨v3, rfl, ho3, hb3⟩
  go_wp2_with fail
  go_returns
  exact ⟨_, rfl, ho3.lst (Nat.le_refl _), hb1.trans ((hb2.mono hb1.size).trans (hb3.mono (Nat.le_trans hb1.size hb2.size)))⟩
end Go.Proofs.Ytaifmeajfldckaa
