/- The plain functions of the stable half of sorting (swapRange, rotate, symMerge, stable) over an array and a 'less', row for row after the Go text, and what they give: a rotation; a stable sort. Condition: 'less' is a strict weak order. -/
import Derived.Sort.Lot0
import Derived.Sort.LotA
namespace Go.Proofs.Ytaifmeajfldckaa
open Go.Sort
namespace Pl
variable {α : Type} [Inhabited α]

/-! ### swapRange, rotate -/
def swapLoop (a b n i : Nat) (d : Array α) : Array α := if i < n then swapLoop a b n (i + 1) (swp d (a + i) (b + i)) else d
termination_by n - i
def swapRange (d : Array α) (a b n : Nat) : Array α := swapLoop a b n 0 d

def rotLoop (m i j : Nat) (d : Array α) : Array α :=
  if i = j then swapRange d (m - i) m i else
    if _h0 : i = 0 ∨ j = 0 then d else
      if i > j then rotLoop m (i - j) j (swapRange d (m - i) m j) else rotLoop m i (j - i) (swapRange d (m - i) (m + j - i) i)
termination_by i + j
def rotate (d : Array α) (a m b : Nat) : Array α := rotLoop m (m - a) (b - m) d

theorem swapLoop_size (a b n : Nat) : ∀ (k i : Nat) (d : Array α), n - i = k → (swapLoop a b n i d).size = d.size := by
  intro k
  induction k with
  | zero => intro i d h; rw [swapLoop, if_neg (by omega)]
  | succ k ih =>
    intro i d h
    rw [swapLoop]
    split
    · rw [ih (i + 1) _ (by omega), size_swp]
    · rfl
theorem swapRange_size (d : Array α) (a b n : Nat) : (swapRange d a b n).size = d.size := swapLoop_size a b n _ 0 d rfl

theorem swapLoop_get (a b n : Nat) (hab : a + n ≤ b) : ∀ (k i : Nat) (d : Array α), n - i = k → b + n ≤ d.size → ∀ p,
    (swapLoop a b n i d)[p]! = if a + i ≤ p ∧ p < a + n then d[p - a + b]! else if b + i ≤ p ∧ p < b + n then d[p - b + a]! else d[p]! := by
  intro k
  induction k with
  | zero =>
    intro i d h hs p
    rw [swapLoop, if_neg (by omega), if_neg (by omega), if_neg (by omega)]
  | succ k ih =>
    intro i d h hs p
    rw [swapLoop, if_pos (by omega), ih (i + 1) _ (by omega) (by rw [size_swp]; exact hs) p]
    have g := fun q => swp_get d (i := a + i) (j := b + i) (by omega) (by omega) q
    rw [g, g, g]
    repeat' split
    all_goals first | omega | rfl | (congr 1; omega) | (exfalso; omega)

theorem swapRange_get (d : Array α) (a b n : Nat) (hab : a + n ≤ b) (hs : b + n ≤ d.size) (p : Nat) :
    (swapRange d a b n)[p]! = if a ≤ p ∧ p < a + n then d[p - a + b]! else if b ≤ p ∧ p < b + n then d[p - b + a]! else d[p]! := by
  have h := swapLoop_get a b n hab n 0 d rfl hs p
  simpa [swapRange] using h

theorem rotLoop_size (m : Nat) : ∀ (k i j : Nat) (d : Array α), i + j ≤ k → (rotLoop m i j d).size = d.size := by
  intro k
  induction k with
  | zero => intro i j d h; rw [rotLoop, if_pos (by omega), swapRange_size]
  | succ k ih =>
    intro i j d h
    rw [rotLoop]
    split
    · rw [swapRange_size]
    · split
      · rfl
      · split
        · rw [ih _ _ _ (by omega), swapRange_size]
        · rw [ih _ _ _ (by omega), swapRange_size]
theorem rotate_size (d : Array α) (a m b : Nat) : (rotate d a m b).size = d.size := rotLoop_size m _ _ _ d (Nat.le_refl _)

theorem rotLoop_get (m : Nat) : ∀ (k i j : Nat) (d : Array α), i + j ≤ k → 0 < i → 0 < j → i ≤ m → m + j ≤ d.size → ∀ p,
    (rotLoop m i j d)[p]! = if m - i ≤ p ∧ p < m - i + j then d[p + i]! else if m - i + j ≤ p ∧ p < m + j then d[p - j]! else d[p]! := by
  intro k
  induction k with
  | zero => intro i j d h hi hj; omega
  | succ k ih =>
    intro i j d h hi hj him hs p
    rw [rotLoop]
    by_cases e : i = j
    · rw [if_pos e]; subst e
      rw [swapRange_get d _ _ _ (by omega) (by omega)]
      repeat' split
      all_goals first | omega | rfl | (congr 1; omega) | (exfalso; omega)
    · rw [if_neg e, dif_neg (by omega)]
      by_cases g : i > j
      · rw [if_pos g, ih (i - j) j _ (by omega) (by omega) hj (by omega) (by rw [swapRange_size]; exact hs) p]
        have q := fun x => swapRange_get d (m - i) m j (by omega) hs x
        rw [q, q, q]
        repeat' split
        all_goals first | omega | rfl | (congr 1; omega) | (exfalso; omega)
      · rw [if_neg g, ih i (j - i) _ (by omega) hi (by omega) him (by rw [swapRange_size]; omega) p]
        have q := fun x => swapRange_get d (m - i) (m + j - i) i (by omega) (by omega) x
        rw [q, q, q]
        repeat' split
        all_goals first | omega | rfl | (congr 1; omega) | (exfalso; omega)

/-- The two parts are exchanged. -/
theorem rotate_get (d : Array α) (a m b : Nat) (h1 : a < m) (h2 : m < b) (hs : b ≤ d.size) (p : Nat) :
    (rotate d a m b)[p]! = if a ≤ p ∧ p < a + (b - m) then d[p + (m - a)]! else if a + (b - m) ≤ p ∧ p < b then d[p - (b - m)]! else d[p]! := by
  have h := rotLoop_get m _ (m - a) (b - m) d (Nat.le_refl _) (by omega) (by omega) (by omega) (by omega) p
  unfold rotate
  rw [h, show m - (m - a) = a by omega, show m + (b - m) = b by omega]

/-! ### The binary search -/
def bs (p : Nat → Bool) (i j : Nat) : Nat := if i < j then (if p ((i + j) / 2) then bs p ((i + j) / 2 + 1) j else bs p i ((i + j) / 2)) else i
termination_by j - i

theorem bs_spec (p : Nat → Bool) : ∀ (k i j : Nat), j - i ≤ k → i ≤ j → (∀ x y, i ≤ x → x < y → y < j → p y = true → p x = true) →
    i ≤ bs p i j ∧ bs p i j ≤ j ∧ (∀ x, i ≤ x → x < bs p i j → p x = true) ∧ (∀ x, bs p i j ≤ x → x < j → p x = false) := by
  intro k
  induction k with
  | zero => intro i j h hij _; rw [bs, if_neg (by omega)]; exact ⟨Nat.le_refl _, hij, fun x h1 h2 => by omega, fun x h1 h2 => by omega⟩
  | succ k ih =>
    intro i j h hij mono
    rw [bs]
    by_cases c : i < j
    · rw [if_pos c]
      by_cases t : p ((i + j) / 2) = true
      · rw [if_pos t]
        obtain ⟨h1, h2, h3, h4⟩ := ih ((i + j) / 2 + 1) j (by omega) (by omega) (fun x y hx => mono x y (by omega))
        refine ⟨by omega, h2, fun x hx hx2 => ?_, h4⟩
        by_cases e : x < (i + j) / 2
        · exact mono x _ hx e (by omega) t
        · by_cases e2 : x = (i + j) / 2
          · rw [e2]; exact t
          · exact h3 x (by omega) hx2
      · rw [if_neg t]
        obtain ⟨h1, h2, h3, h4⟩ := ih i ((i + j) / 2) (by omega) (by omega) (fun x y hx hy hz => mono x y hx hy (by omega))
        refine ⟨h1, by omega, h3, fun x hx hx2 => ?_⟩
        by_cases e : x < (i + j) / 2
        · exact h4 x hx e
        · cases hp : p x with
          | false => rfl
          | true =>
            exfalso
            by_cases e2 : x = (i + j) / 2
            · rw [e2] at hp; exact t hp
            · exact t (mono _ x (by omega) (by omega) hx2 hp)
    · rw [if_neg c]; exact ⟨Nat.le_refl _, hij, fun x h1 h2 => by omega, fun x h1 h2 => by omega⟩

theorem bs_bounds (p : Nat → Bool) : ∀ (k i j : Nat), j - i ≤ k → i ≤ j → i ≤ bs p i j ∧ bs p i j ≤ j := by
  intro k
  induction k with
  | zero => intro i j h hij; rw [bs, if_neg (by omega)]; exact ⟨Nat.le_refl _, hij⟩
  | succ k ih =>
    intro i j h hij
    rw [bs]
    by_cases c : i < j
    · rw [if_pos c]
      by_cases t : p ((i + j) / 2) = true
      · rw [if_pos t]
        obtain ⟨h1, h2⟩ := ih ((i + j) / 2 + 1) j (by omega) (by omega)
        exact ⟨by omega, h2⟩
      · rw [if_neg t]
        obtain ⟨h1, h2⟩ := ih i ((i + j) / 2) (by omega) (by omega)
        exact ⟨h1, by omega⟩
    · rw [if_neg c]; exact ⟨Nat.le_refl _, hij⟩

/-! ### symMerge, stable -/
def moveUp (i k : Nat) (d : Array α) : Array α := if k + 1 < i then moveUp i (k + 1) (swp d k (k + 1)) else d
termination_by i - k
def moveDown (i : Nat) : Nat → Array α → Array α
  | 0, d => d
  | k + 1, d => if k + 1 > i then moveDown i k (swp d (k + 1) k) else d

section
variable (lt : α → α → Bool)
def startOf (d : Array α) (a m b : Nat) : Nat :=
  bs (fun c => !lt d[(a + b) / 2 + m - 1 - c]! d[c]!) (if m > (a + b) / 2 then (a + b) / 2 + m - b else a) (if m > (a + b) / 2 then (a + b) / 2 else m)
def afterRot (d : Array α) (m s e : Nat) : Array α := if s < m ∧ m < e then rotate d s m e else d
def symMerge : Nat → Array α → Nat → Nat → Nat → Array α
  | 0, d, _, _, _ => d
  | f + 1, d, a, m, b =>
    if m - a = 1 then moveUp (bs (fun h => lt d[h]! d[a]!) m b) a d else
    if b - m = 1 then moveDown (bs (fun h => !lt d[m]! d[h]!) a m) m d else
      let s := startOf lt d a m b
      let e := (a + b) / 2 + m - s
      let d1 := afterRot d m s e
      let d2 := if a < s ∧ s < (a + b) / 2 then symMerge f d1 a s ((a + b) / 2) else d1
      if (a + b) / 2 < e ∧ e < b then symMerge f d2 ((a + b) / 2) e b else d2

def insBlocks (n a b : Nat) (d : Array α) : Array α := if _h : b ≤ n then insBlocks n b (b + 20) (insertionSort lt d a b) else insertionSort lt d a n
termination_by n + 20 - b
def mergeRow (n s a b : Nat) (d : Array α) : Array α :=
  if _h : b ≤ n ∧ 0 < s then mergeRow n s b (b + 2 * s) (symMerge lt (2 * s) d a (a + s) b) else if a + s < n then symMerge lt (2 * s) d a (a + s) n else d
termination_by n + 2 * s - b
def mergeAll (n s : Nat) (d : Array α) : Array α := if _h : s < n ∧ 0 < s then mergeAll n (2 * s) (mergeRow lt n s 0 (2 * s) d) else d
termination_by n - s
def stable (d : Array α) (n : Nat) : Array α := mergeAll lt n 20 (insBlocks lt n 0 20 d)
end
end Pl
end Go.Proofs.Ytaifmeajfldckaa
