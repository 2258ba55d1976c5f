/- Lists of numbers: their clones and slices.Equal; a row of numbers in memory ('TnN'), as 'Tn' for items. Condition: at most 4096 numbers. -/
import Derived.Test.YtaifmeajfldckaaKeys
import Derived.Test.YtaifmeajfldckaaClone
import Derived.Test.YtaifmeajfldckaaSpec
namespace Go.Proofs.Ytaifmeajfldckaa
open Go.RowKit Go.Sort Go.Proofs

/-- What append onto an empty list of numbers does. -/
theorem nclone_run {w : World} {B : Nat} {xs : Array Int} (t ty e : TypeId) (i : TypeInfo) (ht : Try.prog.underlying t = some (.slice e)) (hi : Try.prog.info? e = some i) (hz : i.zero = some (.int .i64 0)) (hsize : i.size = 1) (hby : i.bytes = 8)
    (v : Value) (base : Nat) (hown : w.ownsRow base e 1 v 0 []) (hbase : base ≤ w.heap.size) {A : Option Addr} {c : Nat} (hv : LstN w B (.slice A xs.size c) xs) (hA : A ≠ none) (hn : xs.size ≤ 4096) :
    ∃ v' w', (Builtin.append_ #[t, t] ty #[v, .slice A xs.size c]).run Try.prog w = .ok v' w' ∧ w'.ownsRow base e 1 v' xs.size (xs.toList.map (Value.int .i64)) ∧ w.grownBy w' v.ownBlock ∧ (v' = .slice none 0 0 ↔ v = .slice none 0 0 ∧ xs.size = 0) := by
  obtain ⟨A', c', hv', hc, hm, h⟩ := hv
  injection hv' with e1 _ e3
  subst e1 e3
  cases A with
  | none => exact absurd rfl hA
  | some a =>
    have hcells : ∀ j u, (xs.toList.map (Value.int .i64))[j]? = some u → w.cell? (a.add j) = some u := by
      intro j u hj
      have hjl : j < xs.size := by
        have := (List.getElem?_eq_some_iff.1 hj).1
        simpa using this
      rcases h with h0 | ⟨b, off, hab, _, hcell⟩
      · rw [h0] at hjl; exact absurd hjl (Nat.not_lt_zero _)
      · obtain rfl := Option.some.inj hab
        rw [addr_off, hcell j hjl]
        have : (xs.toList.map (Value.int .i64))[j]? = some (.int .i64 xs[j]!) := by simp [hjl]
        rw [this] at hj
        exact hj
    obtain ⟨v', w', hr, h2, h3, h4⟩ := run_append_own (P := Try.prog) w base t ty e i _ 1 8 ht hi hz hsize hby rfl (by decide) v 0 [] hown a xs.size c (xs.toList.map (Value.int .i64)) (by simp) hcells (by intro u hu; simp at hu; obtain ⟨x, _, rfl⟩ := hu; rfl) (by unfold maxLen; omega) (by omega) hbase
    rw [Nat.zero_add, List.nil_append] at h2
    exact ⟨v', w', hr, h2, h3, h4⟩

set_option maxHeartbeats 1000000 in
theorem nclone_any (v : Value) (xs : Array Int) (w : World) (B : Nat) (hv : LstN w B v xs) (hn : xs.size ≤ 4096) :
    Calls Try.prog 84 #[v] w fun e w' => ∃ v', e = .returned v' ∧ OwnN w' w.heap.size v' xs ∧ Below w.heap.size w w' := by
  obtain ⟨i0, hi, hz0, hz1, hz2⟩ := info_parts int_info
  obtain ⟨v', w1, hr, ho, hb⟩ : ∃ v' w', (Builtin.append_ #[35, 35] 35 #[.slice none 0 0, v]).run Try.prog w = .ok v' w' ∧ OwnN w' w.heap.size v' xs ∧ Below w.heap.size w w' := by
    have hv2 := hv
    obtain ⟨A, c, rfl, hc, hm, h⟩ := hv2
    by_cases hA : A = none
    · subst hA
      have h0 : xs.size = 0 := by
        rcases h with h | ⟨b, off, hab, _⟩
        · exact h
        · cases hab
      rw [h0]
      exact ⟨_, _, run_append_nil2 35 35 _ _ i0 Try.underlying35 ⟨_, Try.underlying35⟩ hi c w, .inl ⟨h0, rfl⟩, Below.refl _ _⟩
    · obtain ⟨v', w', hr, h2, h3, h4⟩ := nclone_run 35 _ _ i0 Try.underlying35 hi hz0 hz1 hz2 (.slice none 0 0) w.heap.size (World.ownsRow_nil _ _ _ _) (Nat.le_refl _) hv hA hn
      exact ⟨v', w', hr, ownN_of_owns h2 rfl (fun e => h4.2 ⟨rfl, e⟩), (Below.refl _ _).grown h3 (Nat.le_refl _) (fun k hk => by simp [Value.ownBlock] at hk)⟩
  clear hv
  have HR := aside hr
  clear hr hi hz0 hz1 hz2
  go_enter Try.func84, Try.ntmps84
  go_wp2_with (at_builtin; refine Lib.wpList_append_run _ rfl _ _ _ _ rfl _ _ rfl rfl _ _ HR.out ?_)
  go_ret
  exact ⟨_, rfl, ho, hb⟩

set_option maxHeartbeats 4000000 in
set_option maxRecDepth 100000 in
theorem equalN_same (v1 v2 : Value) (d : Array Int) (w : World) (B1 B2 : Nat) (hv1 : LstN w B1 v1 d) (hv2 : LstN w B2 v2 d) (hn : d.size ≤ 4096) :
    Calls Try.prog 33 #[v1, v2] w fun e w' => e = .returned (.bool true) ∧ ∃ q, w' = w.drewN q := by
  obtain ⟨A1, c1, rfl, hc1, hm1, h1⟩ := hv1
  obtain ⟨A2, c2, rfl, hc2, hm2, h2⟩ := hv2
  by_cases h0 : d.size = 0
  · clear h1 h2
    rw [h0]
    go_enter Try.func33, Try.ntmps33
    go_wp2
    go_rounds 1
    go_ret
    exact ⟨rfl, 0, rfl⟩
  · rcases h1 with h1 | ⟨b1, off1, rfl, hb1, hcell1⟩
    · exact absurd h1 h0
    · rcases h2 with h2 | ⟨b2, off2, rfl, hb2, hcell2⟩
      · exact absurd h2 h0
      · have C1 := aside hcell1
        have C2 := aside hcell2
        clear hcell1 hcell2
        obtain ⟨n, hnd⟩ : ∃ n, d.size = n := ⟨_, rfl⟩
        rw [hnd] at hc1 hc2 hn h0 ⊢
        have HN := aside hnd
        clear hnd
        go_enter Try.func33, Try.ntmps33
        go_wp2
        go_loopw [13] (fun vi wr => ∃ k : Nat, k ≤ n ∧ vi = .int .i64 k ∧ Aside (∃ q, wr = w.drewN q)) (fun vi _ => n - (intOf vi).toNat)
        case atStart => exact ⟨0, Nat.zero_le _, rfl, 0, rfl⟩
        case round =>
          obtain ⟨k, hk, rfl, hQ⟩ := hrel
          by_cases hlt : k < n
          · have a0 : wr.cell? ⟨b1, off1 + k, none⟩ = some (.int .i64 d[k]!) := by obtain ⟨q, rfl⟩ := hQ.out; exact C1.out k (by rw [HN.out]; exact hlt)
            have e0 : wr.cell? ⟨b2, off2 + k, none⟩ = some (.int .i64 d[k]!) := by obtain ⟨q, rfl⟩ := hQ.out; exact C2.out k (by rw [HN.out]; exact hlt)
            generalize d[k]! = x0 at a0 e0
            go_wp2_with fail
            go_quiet (fail)
            go_wp2
            go_roundw
            case rel => exact ⟨k + 1, by omega, by go_num, by obtain ⟨q, rfl⟩ := hQ.out; exact ⟨_, World.drewN_drewN _ _ _⟩⟩
            case measure => simp [intOf]; omega
          · go_wp2
            go_ret
            exact ⟨rfl, hQ.out⟩

/-! ### A row of numbers -/
structure TnN (blk : Nat) (d : Array Int) (w0 w : World) : Prop where
  os : w.os = w0.os
  tape : w.tape = w0.tape
  output : w.output = w0.output
  size : w0.heap.size ≤ w.heap.size
  block : ∀ k, k < w0.heap.size → k ≠ blk → w.heap[k]? = w0.heap[k]?
  lt : blk < w0.heap.size
  holds : Holds (Value.int .i64) w blk 0 d
variable {blk : Nat} {d d' : Array Int} {w0 w w1 w' : World}
theorem TnN.start (h : Holds (Value.int .i64) w blk 0 d) (hb : blk < w.heap.size) : TnN blk d w w := ⟨rfl, rfl, rfl, Nat.le_refl _, fun _ _ _ => rfl, hb, h⟩
theorem TnN.below (h : TnN blk d w0 w) (hb : Below w.heap.size w w') : TnN blk d w0 w' :=
  ⟨hb.os.trans h.os, hb.tape.trans h.tape, hb.output.trans h.output, Nat.le_trans h.size hb.size, fun k hk hn => (hb.block k (Nat.lt_of_lt_of_le hk h.size)).trans (h.block k hk hn), h.lt, holdsN_of_block h.holds (hb.block blk (Nat.lt_of_lt_of_le h.lt h.size))⟩
theorem TnN.drewN (h : TnN blk d w0 w) (n : Nat) : TnN blk d w0 (w.drewN n) := h.below (below_drewN w n)
theorem TnN.belowRow (h : TnN blk d w0 w) {B : Nat} (hB : B ≤ blk) (hB2 : B ≤ w0.heap.size) : Below B w0 w := ⟨h.os, h.tape, h.output, h.size, fun k hk => h.block k (by omega) (by omega)⟩
theorem TnN.c (h : TnN blk d w0 w) {i : Nat} (hi : i < d.size) : w.cell? ⟨blk, i, none⟩ = some (.int .i64 d[i]!) := by
  have := (h.holds i hi).1
  rwa [Nat.zero_add] at this
theorem TnN.f (h : TnN blk d w0 w) {i : Nat} (hi : i < d.size) : w.frozen? ⟨blk, i, none⟩ = false := by
  have := (h.holds i hi).2
  rwa [Nat.zero_add] at this
theorem TnN.swapped (h : TnN blk d w0 w) {i j : Nat} (hi : i < d.size) (hj : j < d.size) :
    TnN blk (swp d i j) w0 ((w.setCell ⟨blk, i, none⟩ (.int .i64 d[j]!)).setCell ⟨blk, j, none⟩ (.int .i64 d[i]!)) := by
  have e := putRow_swp (Value.int .i64) w blk 0 d i j hi hj
  rw [putRow_self (Value.int .i64) w blk 0 d h.holds, Nat.zero_add, Nat.zero_add] at e
  rw [e]
  refine ⟨h.os, h.tape, h.output, by rw [size_putRow]; exact h.size, fun k hk hn => ?_, h.lt, holds_putRow (Value.int .i64) w blk 0 d _ h.holds (size_swp _ _ _)⟩
  refine Eq.trans ?_ (h.block k hk hn)
  unfold putRow mapBlock
  simp only [Array.getElem?_modify]
  rw [if_neg (fun e => hn e.symm)]
/-- What the exchange wants, and what it leaves. -/
theorem exchN (h : TnN blk d w0 w) (i j : Nat) (hi : i < d.size) (hj : j < d.size) : ∃ x y : Int, d[i]! = x ∧ d[j]! = y ∧
    w.cell? ⟨blk, i, none⟩ = some (.int .i64 x) ∧ w.cell? ⟨blk, j, none⟩ = some (.int .i64 y) ∧ w.frozen? ⟨blk, i, none⟩ = false ∧ w.frozen? ⟨blk, j, none⟩ = false ∧
    (∃ u, (w.setCell ⟨blk, i, none⟩ (.int .i64 y)).cell? ⟨blk, j, none⟩ = some u) ∧
    ∀ q, Aside (TnN blk (swp d i j) w0 (((w.setCell ⟨blk, i, none⟩ (.int .i64 y)).setCell ⟨blk, j, none⟩ (.int .i64 x)).drewN q)) :=
  ⟨_, _, rfl, rfl, h.c hi, h.c hj, h.f hi, h.f hj, cell?_setCell_some (h.c hj), fun q => (h.swapped hi hj).drewN q⟩
end Go.Proofs.Ytaifmeajfldckaa
