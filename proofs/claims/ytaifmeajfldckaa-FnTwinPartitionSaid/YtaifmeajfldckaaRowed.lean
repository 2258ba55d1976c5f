/- A list that a call has made begins the row of a sorting. No condition. -/
import Derived.Test.YtaifmeajfldckaaSpec
import Derived.Test.YtaifmeajfldckaaCopy
namespace Go.Proofs.Ytaifmeajfldckaa
open Go.RowKit Go.Sort Go.Proofs
theorem Own.row2 {w : World} {base : Nat} {v : Value} {d : Array (Int × Int)} (h : Own w base v d) (hb : base ≤ w.heap.size) : ∃ blk, base ≤ blk ∧ Tn blk d w w ∧ ItemsVal blk d.size v ∧ Box blk d.size v := by
  rcases h with ⟨h0, rfl⟩ | ⟨g, c, rfl, hc, hm, hbg, hg, hH⟩
  · exact ⟨w.heap.size, hb, Tn.empty h0 w _, .inl ⟨h0, rfl⟩, none, 0, by rw [h0], by omega, by simp [maxLen], .inl h0⟩
  · exact ⟨g, hbg, Tn.start hH hg, .inr ⟨c, hc, rfl⟩, _, c, rfl, hc, hm, .inr rfl⟩
end Go.Proofs.Ytaifmeajfldckaa
