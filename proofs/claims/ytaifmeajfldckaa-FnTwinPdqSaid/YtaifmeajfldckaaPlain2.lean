/- Small steps of the plain partition, partialInsertionSort, reverseRange: one equation a way through a loop's round. No program in sight. -/
import Derived.Sort.AssemblyPlain
namespace Go.Proofs.Ytaifmeajfldckaa
open Go.Sort
namespace Pl
variable {α : Type} [Inhabited α]

theorem up_go (p : α → Bool) (d : Array α) (j i : Nat) (h : i ≤ j) (hp : p d[i]! = true) : scanUp p d j i = scanUp p d j (i + 1) := by
  rw [scanUp, if_pos (by simp [h, hp])]
theorem up_end (p : α → Bool) (d : Array α) (j i : Nat) (h : ¬ i ≤ j ∨ p d[i]! = false) : scanUp p d j i = i := by
  rw [scanUp, if_neg]
  rcases h with h | h <;> simp [h]
theorem down_go (p : α → Bool) (d : Array α) (i j : Nat) (h : i ≤ j) (h0 : 0 < j) (hp : p d[j]! = true) : scanDown p d i j = scanDown p d i (j - 1) := by
  obtain ⟨k, rfl⟩ : ∃ k, j = k + 1 := ⟨j - 1, by omega⟩
  rw [scanDown, if_pos (by simp [h, hp])]
  rfl
theorem down_end (p : α → Bool) (d : Array α) (i j : Nat) (h : ¬ i ≤ j ∨ p d[j]! = false) : scanDown p d i j = j := by
  rcases j with _ | k
  · rfl
  · rw [scanDown, if_neg]
    rcases h with h | h
    · simp; omega
    · simp [h]

variable {lt : α → α → Bool}
theorem part_break (a i j : Nat) (d : Array α) {i2 j2 : Nat} (hi : i2 = scanUp (fun x => lt x d[a]!) d j i) (hj : j2 = scanDown (fun x => !lt x d[a]!) d i2 j) (h : j2 < i2) : partLoop lt a i j d = (j2, d) := by
  rw [partLoop_eq, ← hi, ← hj, if_pos h]
theorem part_go (a i j : Nat) (d : Array α) {i2 j2 : Nat} (hi : i2 = scanUp (fun x => lt x d[a]!) d j i) (hj : j2 = scanDown (fun x => !lt x d[a]!) d i2 j) (h : i2 ≤ j2) : partLoop lt a i j d = partLoop lt a (i2 + 1) (j2 - 1) (swp d i2 j2) := by
  rw [partLoop_eq, ← hi, ← hj, if_neg (by omega)]
theorem partEq_break (a i j : Nat) (d : Array α) {i2 j2 : Nat} (hi : i2 = scanUp (fun x => !lt d[a]! x) d j i) (hj : j2 = scanDown (fun x => lt d[a]! x) d i2 j) (h : j2 < i2) : partEqLoop lt a i j d = (i2, d) := by
  rw [partEqLoop_eq, ← hi, ← hj, if_pos h]
theorem partEq_go (a i j : Nat) (d : Array α) {i2 j2 : Nat} (hi : i2 = scanUp (fun x => !lt d[a]! x) d j i) (hj : j2 = scanDown (fun x => lt d[a]! x) d i2 j) (h : i2 ≤ j2) : partEqLoop lt a i j d = partEqLoop lt a (i2 + 1) (j2 - 1) (swp d i2 j2) := by
  rw [partEqLoop_eq, ← hi, ← hj, if_neg (by omega)]

/-- Where both scans have stopped and have not crossed, they stand at two places. -/
theorem stops_ne (p : α → Bool) (d : Array α) {i j : Nat} (h1 : p d[i]! = false) (h2 : p d[j]! = true) : i ≠ j := by
  rintro rfl
  rw [h1] at h2; cases h2

theorem partLoop_size (a : Nat) : ∀ (k i j : Nat) (d : Array α), j + 1 - i ≤ k → (partLoop lt a i j d).2.size = d.size := by
  intro k
  induction k with
  | zero =>
    intro i j d h
    have h1 := scanUp_ge (fun x => lt x d[a]!) d j i
    have h2 := scanDown_le (fun x => !lt x d[a]!) d (scanUp (fun x => lt x d[a]!) d j i) j
    rw [part_break a i j d rfl rfl (by omega)]
  | succ k ih =>
    intro i j d h
    have h1 := scanUp_ge (fun x => lt x d[a]!) d j i
    have h2 := scanDown_le (fun x => !lt x d[a]!) d (scanUp (fun x => lt x d[a]!) d j i) j
    by_cases c : scanDown (fun x => !lt x d[a]!) d (scanUp (fun x => lt x d[a]!) d j i) j < scanUp (fun x => lt x d[a]!) d j i
    · rw [part_break a i j d rfl rfl c]
    · rw [part_go a i j d rfl rfl (by omega), ih _ _ _ (by omega), size_swp]
theorem partition_size (d : Array α) (a b pivot : Nat) : (partition lt d a b pivot).2.2.size = d.size := by
  rw [partition_arr, size_swp, partLoop_size _ _ _ _ _ (Nat.le_refl _), size_swp]
theorem partEqLoop_size (a : Nat) : ∀ (k i j : Nat) (d : Array α), j + 1 - i ≤ k → (partEqLoop lt a i j d).2.size = d.size := by
  intro k
  induction k with
  | zero =>
    intro i j d h
    have h1 := scanUp_ge (fun x => !lt d[a]! x) d j i
    have h2 := scanDown_le (fun x => lt d[a]! x) d (scanUp (fun x => !lt d[a]! x) d j i) j
    rw [partEq_break a i j d rfl rfl (by omega)]
  | succ k ih =>
    intro i j d h
    have h1 := scanUp_ge (fun x => !lt d[a]! x) d j i
    have h2 := scanDown_le (fun x => lt d[a]! x) d (scanUp (fun x => !lt d[a]! x) d j i) j
    by_cases c : scanDown (fun x => lt d[a]! x) d (scanUp (fun x => !lt d[a]! x) d j i) j < scanUp (fun x => !lt d[a]! x) d j i
    · rw [partEq_break a i j d rfl rfl c]
    · rw [partEq_go a i j d rfl rfl (by omega), ih _ _ _ (by omega), size_swp]
theorem partitionEqual_size (d : Array α) (a b pivot : Nat) : (partitionEqual lt d a b pivot).2.size = d.size := by
  unfold partitionEqual
  rw [partEqLoop_size _ _ _ _ _ (Nat.le_refl _), size_swp]

theorem scanSorted_go (d : Array α) (b i : Nat) (h : i < b) (hl : lt d[i]! d[i - 1]! = false) : scanSorted lt d b i = scanSorted lt d b (i + 1) := by
  rw [scanSorted, if_pos (by simp [h, hl])]
theorem scanSorted_stop (d : Array α) (b i : Nat) (h : ¬ i < b ∨ lt d[i]! d[i - 1]! = true) : scanSorted lt d b i = i := by
  rw [scanSorted, if_neg]
  rcases h with h | h <;> simp [h]
theorem shiftDown_go (j : Nat) (d : Array α) (hj : 1 ≤ j) (hl : lt d[j]! d[j - 1]! = true) : shiftDown lt j d = shiftDown lt (j - 1) (swp d j (j - 1)) := by
  obtain ⟨k, rfl⟩ : ∃ k, j = k + 1 := ⟨j - 1, by omega⟩
  rw [shiftDown, if_neg (by simp only [Nat.add_sub_cancel] at hl; simp [hl])]
  rfl
theorem shiftDown_stop (j : Nat) (d : Array α) (h : j = 0 ∨ lt d[j]! d[j - 1]! = false) : shiftDown lt j d = d := by
  rcases j with _ | k
  · rfl
  · rcases h with h | h
    · omega
    · rw [shiftDown, if_pos (by simp only [Nat.add_sub_cancel] at h; simp [h])]
theorem shiftUp_go (b j : Nat) (d : Array α) (hj : j < b) (hl : lt d[j]! d[j - 1]! = true) : shiftUp lt b j d = shiftUp lt b (j + 1) (swp d j (j - 1)) := by
  rw [shiftUp, if_pos hj, if_neg (by simp [hl])]
theorem shiftUp_stop (b j : Nat) (d : Array α) (h : ¬ j < b ∨ lt d[j]! d[j - 1]! = false) : shiftUp lt b j d = d := by
  rw [shiftUp]
  rcases h with h | h
  · rw [if_neg h]
  · split
    · rw [if_pos (by simp [h])]
    · rfl
theorem shiftDown_size : ∀ (j : Nat) (d : Array α), (shiftDown lt j d).size = d.size := by
  intro j
  induction j with
  | zero => intro d; rfl
  | succ j ih =>
    intro d; rw [shiftDown]; split
    · rfl
    · rw [ih, size_swp]
theorem shiftUp_size (b : Nat) : ∀ (k j : Nat) (d : Array α), b - j = k → (shiftUp lt b j d).size = d.size := by
  intro k
  induction k with
  | zero => intro j d h; rw [shiftUp_stop b j d (.inl (by omega))]
  | succ k ih =>
    intro j d h
    cases hl : lt d[j]! d[j - 1]! with
    | false => rw [shiftUp_stop b j d (.inr hl)]
    | true => rw [shiftUp_go b j d (by omega) hl, ih _ _ (by omega), size_swp]
theorem partialIns_size (a b : Nat) : ∀ (s i : Nat) (d : Array α), (partialIns lt a b s i d).1.size = d.size := by
  intro s
  induction s with
  | zero => intro i d; rfl
  | succ s ih =>
    intro i d
    rw [partialIns]
    dsimp only
    split
    · rfl
    · split
      · rfl
      · rw [ih]
        split
        · rw [shiftUp_size _ _ _ _ rfl]
          split
          · rw [shiftDown_size, size_swp]
          · rw [size_swp]
        · split
          · rw [shiftDown_size, size_swp]
          · rw [size_swp]
theorem partialInsertionSort_size (d : Array α) (a b : Nat) : (partialInsertionSort lt d a b).1.size = d.size := partialIns_size _ _ _ _ _
theorem reverseLoop_size : ∀ (k i j : Nat) (d : Array α), j - i ≤ k → (reverseLoop i j d).size = d.size := by
  intro k
  induction k with
  | zero => intro i j d h; rw [reverseLoop, if_neg (by omega)]
  | succ k ih =>
    intro i j d h
    rw [reverseLoop]
    split
    · rw [ih _ _ _ (by omega), size_swp]
    · rfl
theorem reverseRange_size (d : Array α) (a b : Nat) : (reverseRange d a b).size = d.size := reverseLoop_size _ _ _ _ (Nat.le_refl _)
end Pl
end Go.Proofs.Ytaifmeajfldckaa
