/- A range that is sorted says true of spec.SortedKeys. -/
import Derived.Test.YtaifmeajfldckaaSame2
import Derived.Test.YtaifmeajfldckaaKeys
namespace Go.Proofs.Ytaifmeajfldckaa
open Go.RowKit Go.Sort Go.Proofs

theorem chain_true {p : Nat → Bool} : ∀ k, (∀ i, 1 ≤ i → i ≤ k → p i = false) → chain p k = true
  | 0, _ => rfl
  | k + 1, h => by
    unfold chain
    rw [h (k + 1) (by omega) (Nat.le_refl _), chain_true k fun i h1 h2 => h i h1 (by omega)]
    rfl
theorem inOrder_sorted {lt : (Int × Int) → (Int × Int) → Bool} {d : Array (Int × Int)} {a b : Nat} (h : SortedIn lt a b d) (hb : b ≤ d.size) : inOrder lt (d.extract a b) = true := by
  unfold inOrder
  have hs : (d.extract a b).size = b - a := by simp; omega
  rw [hs]
  refine chain_true _ fun i h1 h2 => ?_
  rw [extract_get! d (by omega) hb, extract_get! d (by omega) hb]
  exact h _ _ (by omega) (by omega) (by omega)
theorem inOrder_all {lt : (Int × Int) → (Int × Int) → Bool} {d : Array (Int × Int)} (h : SortedIn lt 0 d.size d) : inOrder lt d = true := by
  have := inOrder_sorted h (Nat.le_refl _)
  rwa [Array.extract_size] at this
theorem chain_all {p : Nat → Bool} : ∀ k, chain p k = true → ∀ i, 1 ≤ i → i ≤ k → p i = false
  | 0, _ => fun i h1 h2 => by omega
  | k + 1, h => by
    unfold chain at h
    cases hp : p (k + 1) with
    | true => rw [hp] at h; simp at h
    | false =>
      rw [hp] at h
      intro i h1 h2
      by_cases e : i = k + 1
      · rw [e]; exact hp
      · exact chain_all k (by simpa using h) i h1 (by omega)
theorem sorted_of_inOrder {lt : (Int × Int) → (Int × Int) → Bool} (hS : SWO lt) {d : Array (Int × Int)} {a b : Nat} (h : inOrder lt (d.extract a b) = true) (hb : b ≤ d.size) : SortedIn lt a b d := by
  have hs : (d.extract a b).size = b - a := by simp; omega
  have hc := chain_all _ h
  rw [hs] at hc
  have step : ∀ i, a < i → i < b → lt d[i]! d[i - 1]! = false := by
    intro i h1 h2
    have := hc (i - a) (by omega) (by omega)
    rw [extract_get! d (by omega) hb, extract_get! d (by omega) hb] at this
    rwa [show a + (i - a) = i by omega, show a + (i - a - 1) = i - 1 by omega] at this
  have all : ∀ k i j, j - i = k → a ≤ i → i < j → j < b → lt d[j]! d[i]! = false := by
    intro k
    induction k with
    | zero => intro i j h; omega
    | succ k ih =>
      intro i j hk h1 h2 h3
      by_cases e : j = i + 1
      · subst e; exact step (i + 1) (by omega) h3
      · exact hS.ntrans _ _ _ (step j (by omega) h3) (ih i (j - 1) (by omega) h1 (by omega) (by omega))
  exact fun i j h1 h2 h3 => all _ i j rfl h1 h2 h3

/-- The two forms that the walk gives a part of a list. -/
theorem Lst.cut2 {w : World} {B n c : Nat} {A : Option Addr} {d : Array (Int × Int)} (h : Lst w B (.slice A n c) d) (hn : d.size = n) (i j : Nat) (hij : i ≤ j) (hj : j ≤ n) :
    (c = i → Lst w B (.slice A (j - i) 0) (d.extract i j)) ∧ (¬ c = i → Lst w B (.slice (Option.map (fun x => x.add (i * 2)) A) (j - i) (c - i)) (d.extract i j)) := by
  have L := h.cut hn i j hij hj
  constructor
  · intro e; rw [if_pos e, e, Nat.sub_self] at L; exact L
  · intro e; rw [if_neg e] at L; exact L
end Go.Proofs.Ytaifmeajfldckaa
