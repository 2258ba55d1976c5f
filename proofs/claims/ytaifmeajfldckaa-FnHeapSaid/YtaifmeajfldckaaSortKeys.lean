/- A range that is sorted says true of spec.SortedKeys. -/
import Derived.Test.YtaifmeajfldckaaSame2
import Derived.Test.YtaifmeajfldckaaKeys
namespace Go.Proofs.Ytaifmeajfldckaa
open Go.RowKit Go.Sort Go.Proofs

theorem chain_true {p : Nat → Bool} : ∀ k, (∀ i, 1 ≤ i → i ≤ k → p i = false) → chain p k = true
  | 0, _ => rfl
  | k + 1, h => by
    unfold chain
    rw [h (k + 1) (by omega) (Nat.le_refl _), chain_true k fun i h1 h2 => h i h1 (by omega)]
    rfl
theorem inOrder_sorted {lt : (Int × Int) → (Int × Int) → Bool} {d : Array (Int × Int)} {a b : Nat} (h : SortedIn lt a b d) (hb : b ≤ d.size) : inOrder lt (d.extract a b) = true := by
  unfold inOrder
  have hs : (d.extract a b).size = b - a := by simp; omega
  rw [hs]
  refine chain_true _ fun i h1 h2 => ?_
  rw [extract_get! d (by omega) hb, extract_get! d (by omega) hb]
  exact h _ _ (by omega) (by omega) (by omega)
theorem inOrder_all {lt : (Int × Int) → (Int × Int) → Bool} {d : Array (Int × Int)} (h : SortedIn lt 0 d.size d) : inOrder lt d = true := by
  have := inOrder_sorted h (Nat.le_refl _)
  rwa [Array.extract_size] at this
/-- The two forms that the walk gives a part of a list. -/
theorem Lst.cut2 {w : World} {B n c : Nat} {A : Option Addr} {d : Array (Int × Int)} (h : Lst w B (.slice A n c) d) (hn : d.size = n) (i j : Nat) (hij : i ≤ j) (hj : j ≤ n) :
    (c = i → Lst w B (.slice A (j - i) 0) (d.extract i j)) ∧ (¬ c = i → Lst w B (.slice (Option.map (fun x => x.add (i * 2)) A) (j - i) (c - i)) (d.extract i j)) := by
  have L := h.cut hn i j hij hj
  constructor
  · intro e; rw [if_pos e, e, Nat.sub_self] at L; exact L
  · intro e; rw [if_neg e] at L; exact L
end Go.Proofs.Ytaifmeajfldckaa
