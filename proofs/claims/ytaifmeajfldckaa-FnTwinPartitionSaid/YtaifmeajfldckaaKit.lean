/- The row of items in memory, and how a world of the sorting stands to the world in which a call began: 'Tn blk d w0 w': w is w0 but for block blk, which holds the items d; there may be draws and new blocks. No condition. -/
import Derived.Test.YtaifmeajfldckaaProg
import Derived.Test.YtaifmeajfldckaaPlain
import Derived.WalkKit
import Derived.Handy
import Derived.BigRegion
import Derived.BigQuiet
import Derived.RegionTactic
import Derived.ChangeAlike
import Derived.Deep.QuietTactic
import Derived.Deep.LoopGhost
import Derived.Deep.Draws
import Derived.Outline
import Derived.Lib.Hide
import Derived.Shelf.SlSortFuncK.SWK
namespace Go.Proofs.Ytaifmeajfldckaa
open Go.RowKit Go.Sort

theorem aside {p : Prop} (h : p) : Aside p := h

/-- An item's two cells. -/
def encI (x : Int × Int) : List Value := [.int .i64 x.1, .int .i64 x.2]
theorem encI_len (x : Int × Int) : (encI x).length = 2 := rfl
theorem encI_one (x : Int × Int) : ∀ v ∈ encI x, v.oneCell' = true := fun v hv => by
  simp [encI] at hv; rcases hv with rfl | rfl <;> rfl

/-- less by key. -/
def ltK (x y : Int × Int) : Bool := decide (x.1 < y.1)
/-- the other order. -/
def ltR (x y : Int × Int) : Bool := decide (y.1 < x.1)
theorem swoK : SWO ltK where
  irrefl x := by simp [ltK]
  trans x y z h1 h2 := by simp [ltK] at *; omega
  ntrans x y z h1 h2 := by simp [ltK] at *; omega
theorem swoR : SWO ltR where
  irrefl x := by simp [ltR]
  trans x y z h1 h2 := by simp [ltR] at *; omega
  ntrans x y z h1 h2 := by simp [ltR] at *; omega

structure Tn (blk : Nat) (d : Array (Int × Int)) (w0 w : World) : Prop where
  os : w.os = w0.os
  tape : w.tape = w0.tape
  output : w.output = w0.output
  size : w0.heap.size ≤ w.heap.size
  block : ∀ k, k < w0.heap.size → k ≠ blk → w.heap[k]? = w0.heap[k]?
  lt : blk < w0.heap.size ∨ d.size = 0
  holds : HoldsK encI 2 w blk 0 d

variable {blk : Nat} {d d' : Array (Int × Int)} {w0 w w1 w' : World}

theorem Tn.start (h : HoldsK encI 2 w blk 0 d) (hb : blk < w.heap.size) : Tn blk d w w := ⟨rfl, rfl, rfl, Nat.le_refl _, fun _ _ _ => rfl, .inl hb, h⟩
theorem holdsK_empty (h : d.size = 0) (w : World) (blk : Nat) : HoldsK encI 2 w blk 0 d := fun j hj => by simp [h] at hj
theorem Tn.empty (h : d.size = 0) (w : World) (blk : Nat) : Tn blk d w w := ⟨rfl, rfl, rfl, Nat.le_refl _, fun _ _ _ => rfl, .inr h, holdsK_empty h w blk⟩
theorem Tn.self (h : Tn blk d w0 w) : Tn blk d w w := ⟨rfl, rfl, rfl, Nat.le_refl _, fun _ _ _ => rfl, h.lt.imp (fun h1 => Nat.lt_of_lt_of_le h1 h.size) id, h.holds⟩
theorem Tn.trans (h : Tn blk d w0 w) (k : Tn blk d' w w1) (hs : d'.size = d.size) : Tn blk d' w0 w1 :=
  ⟨k.os.trans h.os, k.tape.trans h.tape, k.output.trans h.output, Nat.le_trans h.size k.size, fun i hi hn => (k.block i (Nat.lt_of_lt_of_le hi h.size) hn).trans (h.block i hi hn), h.lt.imp id fun e => hs.trans e, k.holds⟩
theorem holdsK_of_block (h : HoldsK encI 2 w blk 0 d) (e : d.size = 0 ∨ w'.heap[blk]? = w.heap[blk]?) : HoldsK encI 2 w' blk 0 d := by
  rcases e with e | e
  · exact holdsK_empty e _ _
  · exact fun j hj => ⟨(World.cell?_of_block (w := w) (a := ⟨blk, 0 + j, none⟩) e).trans (h j hj).1, (World.frozen?_of_block (w := w) (a := ⟨blk, 0 + j, none⟩) e).trans (h j hj).2⟩
/-- A step that leaves all that lay there. -/
theorem Tn.below (h : Tn blk d w0 w) (hb : Below w.heap.size w w') : Tn blk d w0 w' :=
  h.trans ⟨hb.os, hb.tape, hb.output, hb.size, fun k hk _ => hb.block k hk, h.self.lt, holdsK_of_block h.holds (h.self.lt.elim (fun e => .inr (hb.block blk e)) .inl)⟩ rfl
theorem below_drewN (w : World) (n : Nat) : Below w.heap.size w (w.drewN n) := ⟨rfl, rfl, rfl, Nat.le_refl _, fun _ _ => rfl⟩
theorem Tn.drewN (h : Tn blk d w0 w) (n : Nat) : Tn blk d w0 (w.drewN n) := h.below (below_drewN w n)
theorem Tn.alloc (h : Tn blk d w0 w) (o : Obj) : Tn blk d w0 (w.alloc o) := h.below ((Below.refl _ _).alloc (Nat.le_refl _) o)
/-- A store into a block that has come since. -/
theorem Tn.setNew (h : Tn blk d w0 w) {b : Nat} (hb : w0.heap.size ≤ b) (o : Nat) (v : Value) : Tn blk d w0 (w.setCell ⟨b, o, none⟩ v) :=
  ⟨h.os, h.tape, h.output, by simpa [World.setCell] using h.size, fun k hk hn => (Below.heap_setCell w ⟨b, o, none⟩ v k (by show k ≠ b; omega)).trans (h.block k hk hn), h.lt,
    holdsK_of_block h.holds (h.lt.elim (fun e => .inr (Below.heap_setCell w ⟨b, o, none⟩ v blk (by show blk ≠ b; omega))) .inl)⟩
/-- All that lay below the row's block is as it was. -/
theorem Tn.belowRow (h : Tn blk d w0 w) {B : Nat} (hB : B ≤ blk) (hB2 : B ≤ w0.heap.size) : Below B w0 w := ⟨h.os, h.tape, h.output, h.size, fun k hk => h.block k (by omega) (by omega)⟩
theorem Tn.lt_of (h : Tn blk d w0 w) {i : Nat} (hi : i < d.size) : blk < w0.heap.size := h.lt.elim id fun e => by omega
/-- A cell of another block. -/
theorem Tn.cell (h : Tn blk d w0 w) {p : Addr} (hp : p.block < w0.heap.size) (hn : p.block ≠ blk) : w.cell? p = w0.cell? p := World.cell?_of_block (w := w0) (h.block p.block hp hn)
theorem Tn.frozen (h : Tn blk d w0 w) {p : Addr} (hp : p.block < w0.heap.size) (hn : p.block ≠ blk) : w.frozen? p = w0.frozen? p := World.frozen?_of_block (w := w0) (h.block p.block hp hn)

/-- Item i's cells. -/
theorem Tn.c0 (h : Tn blk d w0 w) {i : Nat} (hi : i < d.size) : w.cell? ⟨blk, i * 2, none⟩ = some (.int .i64 d[i]!.1) := by
  have := (HoldsK.cell h.holds hi (c := 0) (by omega)).1
  rw [show 0 + i * 2 + 0 = i * 2 by omega] at this
  exact this
theorem Tn.c1 (h : Tn blk d w0 w) {i : Nat} (hi : i < d.size) : w.cell? ⟨blk, i * 2 + 1, none⟩ = some (.int .i64 d[i]!.2) := by
  have := (HoldsK.cell h.holds hi (c := 1) (by omega)).1
  rw [show 0 + i * 2 + 1 = i * 2 + 1 by omega] at this
  exact this
theorem Tn.f0 (h : Tn blk d w0 w) {i : Nat} (hi : i < d.size) : w.frozen? ⟨blk, i * 2, none⟩ = false := by
  have := (HoldsK.cell h.holds hi (c := 0) (by omega)).2
  rw [show 0 + i * 2 + 0 = i * 2 by omega] at this
  exact this
theorem Tn.f1 (h : Tn blk d w0 w) {i : Nat} (hi : i < d.size) : w.frozen? ⟨blk, i * 2 + 1, none⟩ = false := by
  have := (HoldsK.cell h.holds hi (c := 1) (by omega)).2
  rw [show 0 + i * 2 + 1 = i * 2 + 1 by omega] at this
  exact this

/-- From the library's word on worlds of the sort. -/
theorem Tn.of_sortWorld (h : Tn blk d w w) (hs : d'.size = d.size) (n : Nat) (os : Array Obj) : Tn blk d' w (sortWorldK encI 2 w blk 0 n d' os) := by
  have hb : ∀ k, k < w.heap.size → k ≠ blk → (putRowK encI 2 (Sort.ahead w n) blk 0 d').heap[k]? = w.heap[k]? := by
    intro k hk hn
    unfold putRowK putRow mapBlock
    simp only [Array.getElem?_modify]
    rw [if_neg (fun e => hn e.symm)]
    rfl
  refine ⟨rfl, rfl, rfl, ?_, ?_, h.lt.imp id fun e => hs.trans e, h.lt.elim (fun e => holdsK_sortWorldK encI 2 w blk 0 n d d' os e h.holds hs) fun e => holdsK_empty (hs.trans e) _ _⟩
  · unfold sortWorldK
    rw [size_grow, size_putRowK]
    show w.heap.size ≤ w.heap.size + _
    omega
  · intro k hk hn
    unfold sortWorldK
    rw [heap_grow_old _ _ (by rw [size_putRowK]; exact hk), hb k hk hn]
/-- The exchange's two runs of stores. -/
theorem Tn.swapped (h : Tn blk d w0 w) {i j : Nat} (hi : i < d.size) (hj : j < d.size) (n : Nat) :
    Tn blk (swp d i j) w0 (((w.setCells blk (i * 2) (encI d[j]!)).setCells blk (j * 2) (encI d[i]!)).drewN n) := by
  have S := (Go.Proofs.SWK.start h.holds).swap encI_len (h.self.lt_of hi) i j hi hj
  rw [Nat.zero_add, Nat.zero_add] at S
  obtain ⟨m, os, e⟩ := S
  rw [e]
  exact (h.trans (h.self.of_sortWorld (size_swp d i j) m os) (size_swp d i j)).drewN n
/-- w comes of w0 by the sorting of block blk, whatever it holds. -/
def On (blk : Nat) (w0 w : World) : Prop := ∃ d, Tn blk d w0 w
theorem Tn.on (h : Tn blk d w0 w) : On blk w0 w := ⟨d, h⟩
theorem On.trans (h : On blk w0 w) (k : On blk w w1) : On blk w0 w1 := by
  obtain ⟨d, h⟩ := h
  obtain ⟨d', k⟩ := k
  rcases h.lt with e | e
  · exact ⟨d', k.os.trans h.os, k.tape.trans h.tape, k.output.trans h.output, Nat.le_trans h.size k.size, fun i hi hn => (k.block i (Nat.lt_of_lt_of_le hi h.size) hn).trans (h.block i hi hn), .inl e, k.holds⟩
  · exact ⟨#[], k.os.trans h.os, k.tape.trans h.tape, k.output.trans h.output, Nat.le_trans h.size k.size, fun i hi hn => (k.block i (Nat.lt_of_lt_of_le hi h.size) hn).trans (h.block i hi hn), .inr rfl, holdsK_empty rfl _ _⟩
/-- How a call ends that turns the row to d' and returns v. -/
def Post (blk : Nat) (d' : Array (Int × Int)) (w0 w : World) (v : Value) (e : Ending) (w' : World) : Prop := e = .returned v ∧ Aside (Tn blk d' w0 w') ∧ On blk w0 w' ∧ Aside (Tn blk d' w w')
theorem post_lift {f : FuncId} {args : Array Value} {v : Value} (c : Calls Try.prog f args w fun e w' => e = .returned v ∧ Tn blk d' w w') (h : Tn blk d w0 w) (hs : d'.size = d.size) : Calls Try.prog f args w (Post blk d' w0 w v) :=
  c.mono fun _ _ ⟨he, k⟩ => ⟨he, h.trans k hs, (h.trans k hs).on, k⟩
theorem post_read {f : FuncId} {args : Array Value} {v : Value} (c : Calls Try.prog f args w fun e w' => e = .returned v ∧ Below w.heap.size w w') (h : Tn blk d w0 w) :
    Calls Try.prog f args w fun e w' => e = .returned v ∧ Aside (Tn blk d w0 w') ∧ On blk w0 w' ∧ Aside (Below w.heap.size w w') :=
  c.mono fun _ _ ⟨he, k⟩ => ⟨he, h.below k, (h.below k).on, k⟩
end Go.Proofs.Ytaifmeajfldckaa
