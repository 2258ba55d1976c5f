/- A cell of its own beside the row that is sorted (the counter of choosePivot, the random number of breakPatterns): 'Cv blk d w0 c v w': w is a world of the sorting, and the cell c, 0, which has come since w0, holds v. No condition. -/
import Derived.Test.YtaifmeajfldckaaMeth
namespace Go.Proofs.Ytaifmeajfldckaa
open Go.RowKit Go.Sort Go.Proofs

structure Cv (blk : Nat) (d : Array (Int × Int)) (w0 : World) (c : Nat) (v : Value) (w : World) : Prop where
  tn : Tn blk d w0 w
  cell : w.cell? ⟨c, 0, none⟩ = some v
  frozen : w.frozen? ⟨c, 0, none⟩ = false
  ge : w0.heap.size ≤ c
  lt : c < w.heap.size

variable {blk c : Nat} {d d' : Array (Int × Int)} {w0 w w' : World} {v : Value}
theorem Cv.start (h : Tn blk d w0 w) (v : Value) (T : TypeId) : Cv blk d w0 w.heap.size v (w.alloc (.cells #[v] T)) :=
  ⟨h.alloc _, by rw [World.cell?_alloc_at _ _ _ _ rfl]; rfl, World.frozen?_alloc_at _ _ _ _ rfl, h.size, by simp⟩
theorem Cv.below (h : Cv blk d w0 c v w) (hb : Below w.heap.size w w') : Cv blk d w0 c v w' :=
  ⟨h.tn.below hb, (hb.cell (p := ⟨c, 0, none⟩) h.lt).trans h.cell, (hb.frozen (p := ⟨c, 0, none⟩) h.lt).trans h.frozen, h.ge, Nat.lt_of_lt_of_le h.lt hb.size⟩
theorem Cv.set (h : Cv blk d w0 c v w) (u : Value) : Cv blk d w0 c u (w.setCell ⟨c, 0, none⟩ u) :=
  ⟨h.tn.setNew h.ge 0 u, World.cell?_setCell_same _ _ _ h.cell, by rw [World.frozen?_setCell]; exact h.frozen, h.ge, by simpa using h.lt⟩
theorem Cv.drewN (h : Cv blk d w0 c v w) (n : Nat) : Cv blk d w0 c v (w.drewN n) := h.below (below_drewN w n)
/-- The row is turned; the cell is another block's. -/
theorem Cv.row (h : Cv blk d w0 c v w) (k : Tn blk d' w w') (hs : d'.size = d.size) (hb : blk < w0.heap.size) : Cv blk d' w0 c v w' :=
  have hne : c ≠ blk := fun e => by have := h.ge; omega
  ⟨h.tn.trans k hs, (k.cell (p := ⟨c, 0, none⟩) h.lt hne).trans h.cell, (k.frozen (p := ⟨c, 0, none⟩) h.lt hne).trans h.frozen, h.ge, Nat.lt_of_lt_of_le h.lt k.size⟩
end Go.Proofs.Ytaifmeajfldckaa
