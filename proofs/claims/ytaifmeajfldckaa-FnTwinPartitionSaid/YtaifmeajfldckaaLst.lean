/- How a list of items reads out of memory ('Lst'), and a list of items that a call has made ('Own'). -/
import Derived.Test.YtaifmeajfldckaaMeth
import Derived.OwnWalk
namespace Go.Proofs.Ytaifmeajfldckaa
open Go.RowKit Go.Sort Go.Proofs

/-- v is a slice of the items d, in a block below B. -/
def Lst (w : World) (B : Nat) (v : Value) (d : Array (Int × Int)) : Prop :=
  ∃ A c, v = .slice A d.size c ∧ d.size ≤ c ∧ c ≤ maxLen ∧ (d.size = 0 ∨ ∃ b off, A = some ⟨b, off, none⟩ ∧ b < B ∧
    ∀ i, i < d.size → w.cell? ⟨b, off + i * 2, none⟩ = some (.int .i64 d[i]!.1) ∧ w.cell? ⟨b, off + i * 2 + 1, none⟩ = some (.int .i64 d[i]!.2))
/-- v is a slice of the items d that lies at the head of a block of its own, from 'base' on; nil if it is empty. -/
def Own (w : World) (base : Nat) (v : Value) (d : Array (Int × Int)) : Prop :=
  (d.size = 0 ∧ v = .slice none 0 0) ∨ ∃ g c, v = .slice (some ⟨g, 0, none⟩) d.size c ∧ d.size ≤ c ∧ c ≤ maxLen ∧ base ≤ g ∧ g < w.heap.size ∧ HoldsK encI 2 w g 0 d

variable {w w' : World} {B base : Nat} {v : Value} {d : Array (Int × Int)}
theorem Lst.below (h : Lst w B v d) (hb : Below B w w') : Lst w' B v d := by
  obtain ⟨A, c, rfl, hc, hm, h⟩ := h
  refine ⟨A, c, rfl, hc, hm, h.imp id ?_⟩
  rintro ⟨b, off, rfl, hbB, hcell⟩
  exact ⟨b, off, rfl, hbB, fun i hi => ⟨(hb.cell (p := ⟨b, off + i * 2, none⟩) hbB).trans (hcell i hi).1, (hb.cell (p := ⟨b, off + i * 2 + 1, none⟩) hbB).trans (hcell i hi).2⟩⟩
theorem Lst.mono (h : Lst w B v d) {B' : Nat} (hB : B ≤ B') : Lst w B' v d := by
  obtain ⟨A, c, rfl, hc, hm, h⟩ := h
  refine ⟨A, c, rfl, hc, hm, h.imp id ?_⟩
  rintro ⟨b, off, rfl, hbB, hcell⟩
  exact ⟨b, off, rfl, by omega, hcell⟩
theorem lst_holds {g n c : Nat} (hn : d.size = n) (hH : HoldsK encI 2 w g 0 d) (hc : n ≤ c) (hm : c ≤ maxLen) (hg : g < B) : Lst w B (.slice (some ⟨g, 0, none⟩) n c) d := by
  subst hn
  refine ⟨_, _, rfl, hc, hm, .inr ⟨g, 0, rfl, hg, fun i hi => ?_⟩⟩
  have h0 := (HoldsK.cell hH hi (c := 0) (by omega)).1
  have h1 := (HoldsK.cell hH hi (c := 1) (by omega)).1
  exact ⟨h0, h1⟩
theorem Own.lst (h : Own w base v d) (hB : w.heap.size ≤ B) : Lst w B v d := by
  rcases h with ⟨h0, rfl⟩ | ⟨g, c, rfl, hc, hm, _, hg, hH⟩
  · exact ⟨none, 0, by rw [h0], by omega, by simp [maxLen], .inl h0⟩
  · exact lst_holds rfl hH hc hm (by omega)
theorem Own.below (h : Own w base v d) (hb : Below w.heap.size w w') : Own w' base v d := by
  rcases h with h | ⟨g, c, rfl, hc, hm, hbg, hg, hH⟩
  · exact .inl h
  · exact .inr ⟨g, c, rfl, hc, hm, hbg, Nat.lt_of_lt_of_le hg hb.size, holdsK_of_block hH (.inr (hb.block g hg))⟩
theorem Own.mono (h : Own w base v d) {b' : Nat} (hb : b' ≤ base) : Own w b' v d := by
  rcases h with h | ⟨g, c, rfl, hc, hm, hbg, hg, hH⟩
  · exact .inl h
  · exact .inr ⟨g, c, rfl, hc, hm, by omega, hg, hH⟩

theorem flat_get : ∀ (l : List (Int × Int)) (j : Nat), j < l.length * 2 → (l.flatMap encI)[j]? = some (encI l[j / 2]!)[j % 2]!
  | [], j, h => by simp at h
  | x :: l, 0, _ => rfl
  | x :: l, 1, _ => rfl
  | x :: l, j + 2, h => by
    have e : ((x :: l).flatMap encI) = encI x ++ l.flatMap encI := by simp
    rw [e, List.getElem?_append_right (by simp [encI])]
    rw [show j + 2 - (encI x).length = j by simp [encI]]
    rw [flat_get l j (by simp at h; omega), show (j + 2) / 2 = j / 2 + 1 by omega, show (j + 2) % 2 = j % 2 by omega]
    rfl
theorem flat_len (l : List (Int × Int)) : (l.flatMap encI).length = l.length * 2 := by
  induction l with
  | nil => rfl
  | cons x l ih => simp [encI] at ih ⊢; omega
theorem own_of_owns {e n : Nat} (h : w.ownsRow base e 2 v n (d.toList.flatMap encI)) (hn : n = d.size) (h0 : d.size = 0 → v = .slice none 0 0) : Own w base v d := by
  subst hn
  by_cases c0 : d.size = 0
  · exact .inl ⟨c0, h0 c0⟩
  · have h' := h
    rcases h.2 with ⟨_, hz⟩ | ⟨g, cap, cur, rfl, hb, hg, hc, hm, hs, ht⟩
    · omega
    · refine .inr ⟨g, cap, rfl, hc, hm, hb, (Array.getElem?_eq_some_iff.1 hg).1, fun j hj => ?_⟩
      rw [size_flatK] at hj
      rw [Nat.zero_add]
      refine ⟨?_, h'.frozenAt j⟩
      rw [h'.cellAt j hj, flat_get _ j (by simpa using hj), get_flatK _ _ _ _ hj]
      have e : d.toList[j / 2]! = d[j / 2]! := by
        rw [getElem!_pos d.toList (j / 2) (by simp; omega), getElem!_pos d (j / 2) (by omega)]; simp
      rw [e]
      rfl
theorem flat_snoc (d : Array (Int × Int)) (k : Nat) (h : k < d.size) : (d.toList.take (k + 1)).flatMap encI = (d.toList.take k).flatMap encI ++ [.int .i64 d[k]!.1, .int .i64 d[k]!.2] := by
  rw [List.take_succ_eq_append_getElem (by simpa using h), List.flatMap_append]
  simp [h, encI]

end Go.Proofs.Ytaifmeajfldckaa
