/- A part of a list of items is a list of items. -/
import Derived.Test.YtaifmeajfldckaaCat
import Derived.Deep.RegionWith
namespace Go.Proofs.Ytaifmeajfldckaa
open Go.RowKit Go.Sort Go.Proofs

theorem extract_get! (d : Array (Int × Int)) {i j k : Nat} (h : k < j - i) (hj : j ≤ d.size) : (d.extract i j)[k]! = d[i + k]! := by
  rw [getElem!_pos _ k (by simp; omega), getElem!_pos d (i + k) (by omega)]; simp
theorem Lst.cut {w : World} {B n c : Nat} {A : Option Addr} {d : Array (Int × Int)} (h : Lst w B (.slice A n c) d) (hn : d.size = n) (i j : Nat) (hij : i ≤ j) (hj : j ≤ n) :
    Lst w B (.slice (if c = i then A else A.map (·.add (i * 2))) (j - i) (c - i)) (d.extract i j) := by
  subst hn
  obtain ⟨A', c', hv, hc, hm, h⟩ := h
  injection hv with e1 _ e3
  subst e1 e3
  have hsz : (d.extract i j).size = j - i := by simp; omega
  refine ⟨_, _, by rw [hsz], by rw [hsz]; omega, by unfold maxLen at *; omega, ?_⟩
  by_cases h0 : j - i = 0
  · exact .inl (by rw [hsz]; exact h0)
  · rcases h with h | ⟨b, off, rfl, hb, hcell⟩
    · omega
    · refine .inr ⟨b, off + i * 2, by rw [if_neg (by omega)]; simp [addr_off], hb, fun k hk => ?_⟩
      rw [hsz] at hk
      rw [extract_get! d hk hj]
      have := hcell (i + k) (by omega)
      rwa [show off + (i + k) * 2 = off + i * 2 + k * 2 by omega] at this

theorem rotate_cat (d : Array (Int × Int)) (a m b : Nat) (h1 : a < m) (h2 : m < b) (hb : b ≤ d.size) (ds : Nat → Array (Int × Int))
    (e0 : ds 0 = d.extract 0 a) (e1 : ds 1 = d.extract m b) (e2 : ds 2 = d.extract a m) (e3 : ds 3 = d.extract b d.size) : (cat ds 4).toArray = Pl.rotate d a m b := by
  simp only [cat, e0, e1, e2, e3, List.nil_append]
  apply Array.ext
  · simp [Pl.rotate_size]; omega
  · intro p p1 p2
    rw [Pl.rotate_size] at p2
    have := Pl.rotate_get d a m b h1 h2 hb p
    rw [getElem!_pos _ p (by rw [Pl.rotate_size]; exact p2)] at this
    rw [this]
    have s0 : (d.extract 0 a).toList.length = a := by simp; omega
    have s1 : (d.extract m b).toList.length = b - m := by simp; omega
    have s2 : (d.extract a m).toList.length = m - a := by simp; omega
    simp only [List.getElem_toArray]
    by_cases c1 : p < a
    · rw [if_neg (by omega), if_neg (by omega), getElem!_pos d p p2]
      rw [List.getElem_append_left (by simp; omega), List.getElem_append_left (by simp; omega), List.getElem_append_left (by simp; omega)]
      simp
    · by_cases c2 : p < a + (b - m)
      · rw [if_pos (by omega), getElem!_pos d _ (by omega)]
        rw [List.getElem_append_left (by simp; omega), List.getElem_append_left (by simp; omega), List.getElem_append_right (by simp; omega)]
        simp only [s0, Array.getElem_toList, Array.getElem_extract]
        congr 1; omega
      · by_cases c3 : p < b
        · rw [if_neg (by omega), if_pos (by omega), getElem!_pos d _ (by omega)]
          rw [List.getElem_append_left (by simp; omega), List.getElem_append_right (by simp; omega)]
          simp only [List.length_append, s0, s1, Array.getElem_toList, Array.getElem_extract]
          congr 1; omega
        · rw [if_neg (by omega), if_neg (by omega), getElem!_pos d _ (by omega)]
          rw [List.getElem_append_right (by simp; omega)]
          simp only [List.length_append, s0, s1, s2, Array.getElem_toList, Array.getElem_extract]
          congr 1; omega
end Go.Proofs.Ytaifmeajfldckaa
