/- The argument of every law here, a list of items, as it reads in memory: it is a list in the sense of 'Lst'. No condition. -/
import Derived.Test.YtaifmeajfldckaaLst
import Derived.Test.YtaifmeajfldckaaRows
import Derived.ProofKit
import Derived.OpenShut
import Derived.ChangeOld
import Derived.Below
import Derived.Carry
import Derived.Deep.Slices
namespace Go.Proofs.Ytaifmeajfldckaa
open Go.RowKit Go.Sort Go.Proofs Go.ChangeShapes Go.WideShapes Go.ChangeAt Go.Deep

theorem own : ownKnob Try.prog.godebug = none := by kernel_rfl
theorem laidOut : laidOutB Try.prog = true := by kernel_rfl
theorem cells_item : Try.prog.cellsOf 27 = 2 := by kernel_rfl
theorem cells_int : Try.prog.cellsOf 3 = 1 := by kernel_rfl

theorem len_two {α : Type} {l : List α} (h : l.length = 2) : ∃ a b, l = [a, b] := by
  match l, h with
  | [a, b], _ => exact ⟨a, b, rfl⟩

section
variable {H : Type} {enc : TypeId × Value → H} {w : World}
theorem item_of_trod {fuel : Nat} {cs : List Value} {x : DataW H × List MemPlace} (h : DataW.trod enc Try.prog w 0 (fun _ => true) true fuel 27 cs = some x) :
    ∃ n0 n1 : Int, cs = [.int .i64 n0, .int .i64 n1] := by
  obtain ⟨xs, n, rfl, hx, hlen, hxl, hf⟩ := DataW.trod_struct Try.underlying27 h
  rw [cells_item] at hlen
  obtain ⟨c0, c1, rfl⟩ := len_two hlen
  have f0 : DataW.trod enc Try.prog w 0 (fun _ => true) true n 3 (List.take (Try.prog.cellsOf 3) (List.drop 0 [c0, c1])) = xs[0]? := hf 0 _ rfl
  have f1 : DataW.trod enc Try.prog w 0 (fun _ => true) true n 3 (List.take (Try.prog.cellsOf 3) (List.drop 1 [c0, c1])) = xs[1]? := hf 1 _ rfl
  rw [cells_int] at f0 f1
  obtain ⟨y0, y1, rfl⟩ := len_two (l := xs) hxl
  obtain ⟨n0, e0, _, _⟩ := DataW.trod_int Try.underlying3 f0
  obtain ⟨n1, e1, _, _⟩ := DataW.trod_int Try.underlying3 f1
  simp at e0 e1
  exact ⟨n0, n1, by rw [e0, e1]⟩
theorem addr_zero (a : Addr) : a.add 0 = a := by
  obtain ⟨b, o, s⟩ := a
  cases s <;> simp [Addr.add]
theorem lst_of_trod {fuel : Nat} {v : Value} {x : DataW H × List MemPlace} (h : DataW.trod enc Try.prog w 0 (fun _ => true) true fuel 22 [v] = some x) : ∃ d, Lst w w.heap.size v d := by
  rcases open_slice Try.underlying22 h with ⟨hcs, _⟩ | ⟨a, len, cap, m, n, D, Pl, hcs, hb, hl, hm, hmm, hx, hi⟩
  · simp at hcs
    exact ⟨#[], none, 0, hcs, Nat.le_refl _, by simp [maxLen], .inl rfl⟩
  · simp at hcs
    have hmc : m = cap := by simpa using hmm
    have hex : ∀ i, ∃ p : Int × Int, i < len → w.cell? (a.add (i * 2)) = some (.int .i64 p.1) ∧ w.cell? ((a.add (i * 2)).add 1) = some (.int .i64 p.2) := by
      intro i
      by_cases hil : i < len
      · obtain ⟨cs', h1, h2⟩ := hi i (by omega)
        rw [cells_item] at h1
        obtain ⟨_, hcl, hat⟩ := World.cells?_some h1
        obtain ⟨n0, n1, rfl⟩ := item_of_trod h2
        refine ⟨(n0, n1), fun _ => ⟨?_, ?_⟩⟩
        · have := hat 0 (by omega); rwa [addr_zero] at this
        · exact hat 1 (by omega)
      · exact ⟨(0, 0), fun h => absurd h hil⟩
    obtain ⟨f, hf⟩ := Classical.axiomOfChoice hex
    refine ⟨(Array.range len).map f, some a, cap, by simp [hcs], by simpa using hl, hm, ?_⟩
    by_cases h0 : len = 0
    · exact .inl (by simp [h0])
    · right
      obtain ⟨b, off, spot⟩ := a
      have hc0 := (hf 0 (by omega)).1
      have hspot : spot = none := by simpa [Addr.add] using World.cell?_spot hc0
      subst hspot
      have ha : ∀ k, (⟨b, off, none⟩ : Addr).add k = ⟨b, off + k, none⟩ := fun k => by unfold Addr.add; split <;> simp_all
      refine ⟨b, off, rfl, ?_, fun i hi => ?_⟩
      · exact World.block_lt_of_cell? w ⟨b, off + 0 * 2, none⟩ (by rw [← ha]; exact hc0)
      · simp at hi
        have h := hf i hi
        rw [ha] at h
        have hb : ∀ k, (⟨b, off + i * 2, none⟩ : Addr).add k = ⟨b, off + i * 2 + k, none⟩ := fun k => by unfold Addr.add; split <;> simp_all
        rw [hb] at h
        simpa [hi] using h
end
end Go.Proofs.Ytaifmeajfldckaa
