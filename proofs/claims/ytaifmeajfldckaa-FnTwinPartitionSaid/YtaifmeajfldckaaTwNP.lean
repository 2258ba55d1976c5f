/- sortinner.Partition and impl.PartitionTwin of numbers; the plain partition of keys is the keys of the plain partition of items. Conditions: a <= pivot < b <= n <= 4096. -/
import Derived.Test.YtaifmeajfldckaaNPart
namespace Go.Proofs.Ytaifmeajfldckaa
open Go.RowKit Go.Sort Go.Proofs

set_option maxHeartbeats 1000000 in
theorem xNPart_any (v : Value) (xs : Array Int) (w : World) (B : Nat) (hv : LstN w B v xs) (hn : xs.size ≤ 4096) (a b p : Nat) (hap : a ≤ p) (hpb : p < b) (hb : b ≤ xs.size) :
    Calls Try.prog 61 #[v, .int .i64 a, .int .i64 b, .int .i64 p] w fun e w' => ∃ v', e = .returned (.tuple #[v', .int .i64 (partition ltInt xs a b p).1, .bool (partition ltInt xs a b p).2.1]) ∧ LstN w' w'.heap.size v' (partition ltInt xs a b p).2.2 ∧ Below w.heap.size w w' := by
  obtain ⟨r, hr⟩ : ∃ r, partition ltInt xs a b p = r := ⟨_, rfl⟩
  have hrz : Aside (r.2.2.size = xs.size) := by rw [← hr]; exact Pl.partition_size _ _ _ _
  rw [hr]
  have HR := aside hr
  clear hr
  have hcl := nclone_any v xs w B hv hn
  go_enter Try.func61, Try.ntmps61
  go_wp2_with fail
  refine hcl.mono ?_
  rintro e w1 ⟨v1, rfl, ho, hb1⟩
  rcases ho with ⟨h0, -⟩ | ⟨g, c, rfl, hc, hm, hbg, hg, hH⟩
  · omega
  · have HC := aside (npartition_any (c1 := c) xs w1 (TnN.start hH hg) rfl hn a b p hap hpb hb)
    clear hH hcl
    go_wp2_with fail
    refine HC.out.mono ?_
    rw [HR.out]
    rintro e w2 ⟨rfl, T2⟩
    have hL : LstN w2 w2.heap.size (.slice (some ⟨g, 0, none⟩) xs.size c) r.2.2 := by
      refine ⟨_, c, by rw [hrz.out], by rw [hrz.out]; exact hc, hm, .inr ⟨g, 0, rfl, Nat.lt_of_lt_of_le hg T2.size, fun i hi => (T2.holds i hi).1⟩⟩
    have hbx := hb1.trans (T2.belowRow hbg hb1.size)
    have HL := aside hL
    clear T2 hL
    go_wp2_with fail
    go_returns
    exact ⟨_, rfl, HL.out, hbx⟩

set_option maxHeartbeats 1000000 in
theorem iNPart_any (v : Value) (xs : Array Int) (w : World) (B : Nat) (hv : LstN w B v xs) (hB0 : B ≤ w.heap.size) (hn : xs.size ≤ 4096) (a b p : Nat) (hap : a ≤ p) (hpb : p < b) (hb : b ≤ xs.size) :
    Calls Try.prog 31 #[v, .int .i64 a, .int .i64 b, .int .i64 p] w fun e w' => ∃ v', e = .returned (.tuple #[v', .int .i64 (partition ltInt xs a b p).1, .bool (partition ltInt xs a b p).2.1]) ∧ LstN w' w'.heap.size v' (partition ltInt xs a b p).2.2 ∧ Below w.heap.size w w' := by
  obtain ⟨i0, hi, hz0, hz1, hz2⟩ := info_parts int_info
  have hv1 : LstN (w.alloc (.cells #[] 3)) B v xs := hv.below (((Below.refl _ _).alloc (Nat.le_refl _) _).mono hB0)
  obtain ⟨A, c, rfl, hc, hm, h⟩ := hv
  have hA : A ≠ none := by
    rcases h with h | ⟨b0, off, rfl, _⟩
    · omega
    · simp
  obtain ⟨v', w1, hr, h2, h3, h4⟩ := nclone_run 35 35 _ i0 Try.underlying35 hi hz0 hz1 hz2 (.slice (some ⟨w.heap.size, 0, none⟩) 0 0) w.heap.size
      (World.ownsRow_made w #[] 0 (Nat.le_refl _) (by simp [maxLen]) rfl) (by simp) hv1 hA hn
  have hb1 : Below w.heap.size w w1 := ((Below.refl _ _).alloc (Nat.le_refl _) _).grown h3 (by simp) (fun k hk => by simp [Value.ownBlock] at hk; omega)
  have hL1 : LstN w1 w1.heap.size v' xs := (ownN_of_owns h2 rfl (fun e => by omega)).lst (Nat.le_refl _)
  have HX := aside (xNPart_any v' xs w1 w1.heap.size hL1 hn a b p hap hpb hb)
  have HR := aside hr
  generalize partition ltInt xs a b p = r at HX ⊢
  generalize xs.size = n at hc hn hb HR
  clear hv1 h hr h2 h3 h4 hi hL1
  go_enter Try.func31, Try.ntmps31
  go_wp2_with (at_builtin; refine Lib.wpList_append_run _ rfl _ _ _ _ rfl _ _ rfl rfl _ _ HR.out ?_)
  refine HX.out.mono ?_
  rintro e w2 ⟨v2, rfl, hl2, hb2⟩
  have HL := aside hl2
  clear hl2
  go_wp2_with fail
  go_returns
  exact ⟨_, rfl, HL.out, hb1.trans (hb2.mono hb1.size)⟩

/-! ### The keys of a partition -/
theorem key_get (d : Array (Int × Int)) (i : Nat) : (keysOf d)[i]! = d[i]!.1 := by
  by_cases h : i < d.size
  · exact keysOf_get d i h
  · rw [getElem!_neg (keysOf d) i (by rw [keysOf_size]; exact h), getElem!_neg d i h]; rfl
theorem keys_swp (d : Array (Int × Int)) (i j : Nat) : keysOf (swp d i j) = swp (keysOf d) i j := by
  unfold swp
  rw [key_get, key_get]
  unfold keysOf
  rw [Array.map_setIfInBounds, Array.map_setIfInBounds]
theorem keys_up (x : Int × Int) (d : Array (Int × Int)) (j : Nat) : ∀ (k i : Nat), j + 1 - i ≤ k → scanUp (fun y => ltInt y x.1) (keysOf d) j i = scanUp (fun y => ltK y x) d j i
  | 0, i, h => by rw [Pl.up_end _ _ _ _ (.inl (by omega)), Pl.up_end _ _ _ _ (.inl (by omega))]
  | k + 1, i, h => by
    by_cases c : i ≤ j
    · cases e : ltK d[i]! x with
      | true =>
        have e2 : ltInt (keysOf d)[i]! x.1 = true := by rw [key_get]; exact e
        rw [Pl.up_go (fun y => ltInt y x.1) (keysOf d) j i c e2, Pl.up_go (fun y => ltK y x) d j i c e]
        exact keys_up x d j k (i + 1) (by omega)
      | false =>
        have e2 : ltInt (keysOf d)[i]! x.1 = false := by rw [key_get]; exact e
        rw [Pl.up_end (fun y => ltInt y x.1) (keysOf d) j i (.inr e2), Pl.up_end (fun y => ltK y x) d j i (.inr e)]
    · rw [Pl.up_end _ _ _ _ (.inl c), Pl.up_end _ _ _ _ (.inl c)]
theorem keys_down (x : Int × Int) (d : Array (Int × Int)) (i : Nat) : ∀ j, scanDown (fun y => !ltInt y x.1) (keysOf d) i j = scanDown (fun y => !ltK y x) d i j
  | 0 => rfl
  | j + 1 => by
    by_cases c : i ≤ j + 1
    · cases e : ltK d[j + 1]! x with
      | false =>
        have e1 : (fun y => !ltK y x) d[j + 1]! = true := by simp only [e]; rfl
        have e2 : (fun y => !ltInt y x.1) (keysOf d)[j + 1]! = true := by simp only [key_get]; rw [show ltInt d[j + 1]!.1 x.1 = false from e]; rfl
        rw [Pl.down_go (fun y => !ltInt y x.1) (keysOf d) i (j + 1) c (by omega) e2, Pl.down_go (fun y => !ltK y x) d i (j + 1) c (by omega) e1]
        exact keys_down x d i j
      | true =>
        have e1 : (fun y => !ltK y x) d[j + 1]! = false := by simp only [e]; rfl
        have e2 : (fun y => !ltInt y x.1) (keysOf d)[j + 1]! = false := by simp only [key_get]; rw [show ltInt d[j + 1]!.1 x.1 = true from e]; rfl
        rw [Pl.down_end (fun y => !ltInt y x.1) (keysOf d) i (j + 1) (.inr e2), Pl.down_end (fun y => !ltK y x) d i (j + 1) (.inr e1)]
    · rw [Pl.down_end _ _ _ _ (.inl c), Pl.down_end _ _ _ _ (.inl c)]
theorem keys_partLoop (a : Nat) : ∀ (k i j : Nat) (d : Array (Int × Int)), j + 1 - i ≤ k → partLoop ltInt a i j (keysOf d) = ((partLoop ltK a i j d).1, keysOf (partLoop ltK a i j d).2) := by
  intro k
  induction k with
  | zero =>
    intro i j d h
    have h1 := scanUp_ge (fun x => ltK x d[a]!) d j i
    have h2 := scanDown_le (fun x => !ltK x d[a]!) d (scanUp (fun x => ltK x d[a]!) d j i) j
    have u : scanUp (fun x => ltK x d[a]!) d j i = scanUp (fun x => ltInt x (keysOf d)[a]!) (keysOf d) j i := by rw [key_get]; exact (keys_up _ d j _ i (Nat.le_refl _)).symm
    have v : scanDown (fun x => !ltK x d[a]!) d (scanUp (fun x => ltK x d[a]!) d j i) j = scanDown (fun x => !ltInt x (keysOf d)[a]!) (keysOf d) (scanUp (fun x => ltK x d[a]!) d j i) j := by rw [key_get]; exact (keys_down _ d _ j).symm
    rw [Pl.part_break a i j d rfl rfl (by omega), Pl.part_break a i j (keysOf d) u v (by omega)]
  | succ k ih =>
    intro i j d h
    have h1 := scanUp_ge (fun x => ltK x d[a]!) d j i
    have h2 := scanDown_le (fun x => !ltK x d[a]!) d (scanUp (fun x => ltK x d[a]!) d j i) j
    have u : scanUp (fun x => ltK x d[a]!) d j i = scanUp (fun x => ltInt x (keysOf d)[a]!) (keysOf d) j i := by rw [key_get]; exact (keys_up _ d j _ i (Nat.le_refl _)).symm
    have v : scanDown (fun x => !ltK x d[a]!) d (scanUp (fun x => ltK x d[a]!) d j i) j = scanDown (fun x => !ltInt x (keysOf d)[a]!) (keysOf d) (scanUp (fun x => ltK x d[a]!) d j i) j := by rw [key_get]; exact (keys_down _ d _ j).symm
    by_cases c : scanDown (fun x => !ltK x d[a]!) d (scanUp (fun x => ltK x d[a]!) d j i) j < scanUp (fun x => ltK x d[a]!) d j i
    · rw [Pl.part_break a i j d rfl rfl c, Pl.part_break a i j (keysOf d) u v c]
    · rw [Pl.part_go a i j d rfl rfl (by omega), Pl.part_go a i j (keysOf d) u v (by omega), ← keys_swp]
      exact ih _ _ _ (by omega)
theorem keys_partition (d : Array (Int × Int)) (a b p : Nat) : partition ltInt (keysOf d) a b p = ((partition ltK d a b p).1, (partition ltK d a b p).2.1, keysOf (partition ltK d a b p).2.2) := by
  have u : scanUp (fun x => ltK x (swp d a p)[a]!) (swp d a p) (b - 1) (a + 1) = scanUp (fun x => ltInt x (keysOf (swp d a p))[a]!) (keysOf (swp d a p)) (b - 1) (a + 1) := by rw [key_get]; exact (keys_up _ _ _ _ _ (Nat.le_refl _)).symm
  have v : scanDown (fun x => !ltK x (swp d a p)[a]!) (swp d a p) (scanUp (fun x => ltK x (swp d a p)[a]!) (swp d a p) (b - 1) (a + 1)) (b - 1) = scanDown (fun x => !ltInt x (keysOf (swp d a p))[a]!) (keysOf (swp d a p)) (scanUp (fun x => ltK x (swp d a p)[a]!) (swp d a p) (b - 1) (a + 1)) (b - 1) := by rw [key_get]; exact (keys_down _ _ _ _).symm
  by_cases c : scanDown (fun x => !ltK x (swp d a p)[a]!) (swp d a p) (scanUp (fun x => ltK x (swp d a p)[a]!) (swp d a p) (b - 1) (a + 1)) (b - 1) < scanUp (fun x => ltK x (swp d a p)[a]!) (swp d a p) (b - 1) (a + 1)
  · rw [part_short rfl rfl rfl c, part_shortN (keys_swp d a p).symm u v c, keys_swp (swp d a p)]
  · rw [part_long rfl rfl rfl (by omega), part_longN (keys_swp d a p).symm u v (by omega), ← keys_swp, keys_partLoop a _ _ _ _ (Nat.le_refl _), keys_swp (partLoop _ _ _ _ _).2]
end Go.Proofs.Ytaifmeajfldckaa
