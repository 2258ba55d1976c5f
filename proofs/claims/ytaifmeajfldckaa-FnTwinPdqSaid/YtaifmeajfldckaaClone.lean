/- The clones of a list of items: sort's and slices' own, and slices.Clone. Each gives a new list of the same items. Condition: at most 4096 items. -/
import Derived.Test.YtaifmeajfldckaaLst
import Derived.Lib.AppendZeros
import Derived.WalkSpells
namespace Go.Proofs.Ytaifmeajfldckaa
open Go.RowKit Go.Sort Go.Proofs

theorem addr_off (b o k : Nat) : (⟨b, o, none⟩ : Addr).add k = ⟨b, o + k, none⟩ := by unfold Addr.add; split <;> simp_all
theorem lst_cells {w : World} {b off : Nat} {d : Array (Int × Int)} (hcell : ∀ i, i < d.size → w.cell? ⟨b, off + i * 2, none⟩ = some (.int .i64 d[i]!.1) ∧ w.cell? ⟨b, off + i * 2 + 1, none⟩ = some (.int .i64 d[i]!.2)) :
    ∀ j u, (d.toList.flatMap encI)[j]? = some u → w.cell? ((⟨b, off, none⟩ : Addr).add j) = some u := by
  intro j u hj
  have hjl : j < d.size * 2 := by
    have := (List.getElem?_eq_some_iff.1 hj).1
    rwa [flat_len, Array.length_toList] at this
  rw [flat_get _ j (by rw [Array.length_toList]; exact hjl)] at hj
  have e : d.toList[j / 2]! = d[j / 2]! := by
    rw [getElem!_pos d.toList (j / 2) (by simp; omega), getElem!_pos d (j / 2) (by omega)]; simp
  rw [e] at hj
  rw [addr_off, ← hj]
  obtain ⟨c0, c1⟩ := hcell (j / 2) (by omega)
  rcases Nat.mod_two_eq_zero_or_one j with h | h
  · rw [h, show off + j = off + j / 2 * 2 by omega, c0]; rfl
  · rw [h, show off + j = off + j / 2 * 2 + 1 by omega, c1]; rfl
theorem flat_one (d : Array (Int × Int)) : ∀ u ∈ d.toList.flatMap encI, u.oneCell' = true := by
  intro u hu
  obtain ⟨x, _, hx⟩ := List.mem_flatMap.1 hu
  exact encI_one x u hx

/-- What append onto an empty list does. -/
theorem clone_run {w : World} {B : Nat} {d : Array (Int × Int)} (t ty e : TypeId) (i : TypeInfo) (ht : Try.prog.underlying t = some (.slice e)) (hi : Try.prog.info? e = some i) (hz : i.zero = some (.agg #[.int .i64 0, .int .i64 0])) (hsize : i.size = 2) (hby : i.bytes = 16)
    (v : Value) (base : Nat) (hown : w.ownsRow base e 2 v 0 []) (hbase : base ≤ w.heap.size) {A : Option Addr} {c : Nat} (hv : Lst w B (.slice A d.size c) d) (hA : A ≠ none) (hn : d.size ≤ 4096) :
    ∃ v' w', (Builtin.append_ #[t, t] ty #[v, .slice A d.size c]).run Try.prog w = .ok v' w' ∧ w'.ownsRow base e 2 v' d.size (d.toList.flatMap encI) ∧ w.grownBy w' v.ownBlock ∧ (v' = .slice none 0 0 ↔ v = .slice none 0 0 ∧ d.size = 0) := by
  obtain ⟨A', c', hv', hc, hm, h⟩ := hv
  injection hv' with e1 _ e3
  subst e1 e3
  cases A with
  | none => exact absurd rfl hA
  | some a =>
    have hcells : ∀ j u, (d.toList.flatMap encI)[j]? = some u → w.cell? (a.add j) = some u := by
      rcases h with h0 | ⟨b, off, hab, _, hcell⟩
      · intro j u hj
        have : d.toList = [] := by rw [← List.length_eq_zero_iff, Array.length_toList]; exact h0
        rw [this] at hj; simp at hj
      · injection hab with hab; subst hab; exact lst_cells hcell
    obtain ⟨v', w', hr, h2, h3, h4⟩ := run_append_own (P := Try.prog) w base t ty e i _ 2 16 ht hi hz hsize hby rfl (by decide) v 0 [] hown a d.size c (d.toList.flatMap encI) (by rw [flat_len, Array.length_toList]) hcells (flat_one d) (by unfold maxLen; omega) (by omega) hbase
    rw [Nat.zero_add, List.nil_append] at h2
    exact ⟨v', w', hr, h2, h3, h4⟩

theorem run_append_nil2 (t tx ty e : TypeId) (i : TypeInfo) (ht : Try.prog.underlying t = some (.slice e)) (hx : ∃ e', Try.prog.underlying tx = some (.slice e')) (hi : Try.prog.info? e = some i) (c : Nat) (w : World) :
    (Builtin.append_ #[t, tx] ty #[.slice none 0 0, .slice none 0 c]).run Try.prog w = .ok (.slice none 0 0) w := by
  obtain ⟨e', hx⟩ := hx
  simp [Builtin.append_, run_underlying ht, run_underlying hx, sizeOf, typeInfo, hi, Builtin.lenOf, Builtin.firstCells]
theorem run_append_types (t tx ty e : TypeId) (i : TypeInfo) (ht : Try.prog.underlying t = some (.slice e)) (hx : ∃ e', Try.prog.underlying tx = some (.slice e')) (hi : Try.prog.info? e = some i) (b : Option Addr) (n c : Nat) (x : Value) (w : World) :
    (Builtin.append_ #[t, tx] ty #[.slice b n c, x]).run Try.prog w = (Builtin.append_ #[t, t] ty #[.slice b n c, x]).run Try.prog w := by
  obtain ⟨e', hx⟩ := hx
  simp [Builtin.append_, run_underlying ht, run_underlying hx, sizeOf, typeInfo, hi]

theorem sItem_info : (Try.prog.info? 67).map (fun i => (i.zero, i.size, i.bytes)) = some (some (.agg #[.int .i64 0, .int .i64 0]), 2, 16) := by kernel_rfl
theorem nItem_info : (Try.prog.info? 74).map (fun i => (i.zero, i.size, i.bytes)) = some (some (.agg #[.int .i64 0, .int .i64 0]), 2, 16) := by kernel_rfl
theorem iItem_info : (Try.prog.info? 27).map (fun i => (i.zero, i.size, i.bytes)) = some (some (.agg #[.int .i64 0, .int .i64 0]), 2, 16) := by kernel_rfl

/-- 'append(nil, list...)', whatever list. -/
theorem clone_nil {w : World} {B : Nat} {d : Array (Int × Int)} (t tx ty e : TypeId) (i : TypeInfo) (ht : Try.prog.underlying t = some (.slice e)) (hx : ∃ e', Try.prog.underlying tx = some (.slice e')) (hi : Try.prog.info? e = some i) (hz : i.zero = some (.agg #[.int .i64 0, .int .i64 0])) (hsize : i.size = 2) (hby : i.bytes = 16)
    {v : Value} (hv : Lst w B v d) (hn : d.size ≤ 4096) :
    ∃ v' w', (Builtin.append_ #[t, tx] ty #[.slice none 0 0, v]).run Try.prog w = .ok v' w' ∧ Own w' w.heap.size v' d ∧ Below w.heap.size w w' := by
  have hv2 := hv
  obtain ⟨A, c, rfl, hc, hm, h⟩ := hv2
  by_cases hA : A = none
  · subst hA
    have h0 : d.size = 0 := by
      rcases h with h | ⟨b, off, hab, _⟩
      · exact h
      · cases hab
    rw [h0]
    exact ⟨_, _, run_append_nil2 t tx ty e i ht hx hi c w, .inl ⟨h0, rfl⟩, Below.refl _ _⟩
  · obtain ⟨v', w', hr, h2, h3, h4⟩ := clone_run t ty e i ht hi hz hsize hby (.slice none 0 0) w.heap.size (World.ownsRow_nil _ _ _ _) (Nat.le_refl _) hv hA hn
    exact ⟨v', w', (run_append_types t tx ty e i ht hx hi _ _ _ _ w).trans hr, own_of_owns h2 rfl (fun e => h4.2 ⟨rfl, e⟩), (Below.refl _ _).grown h3 (Nat.le_refl _) (fun k hk => by simp [Value.ownBlock] at hk)⟩

set_option maxHeartbeats 1000000 in
theorem cloneSort_any (v : Value) (d : Array (Int × Int)) (w : World) (B : Nat) (hv : Lst w B v d) (hn : d.size ≤ 4096) :
    Calls Try.prog 75 #[v] w fun e w' => ∃ v', e = .returned v' ∧ Own w' w.heap.size v' d ∧ Below w.heap.size w w' := by
  obtain ⟨i0, hi, hz0, hz1, hz2⟩ := info_parts sItem_info
  obtain ⟨v', w1, hr, ho, hb⟩ := clone_nil 43 42 43 _ i0 Try.underlying43 ⟨_, Try.underlying42⟩ hi hz0 hz1 hz2 hv hn
  clear hv
  have HR := aside hr
  clear hr hi hz0 hz1 hz2
  go_enter Try.func75, Try.ntmps75
  go_wp2_with (at_builtin; refine Lib.wpList_append_run _ rfl _ _ _ _ rfl _ _ rfl rfl _ _ HR.out ?_)
  go_ret
  exact ⟨_, rfl, ho, hb⟩

set_option maxHeartbeats 1000000 in
theorem cloneInner_any (v : Value) (d : Array (Int × Int)) (w : World) (B : Nat) (hv : Lst w B v d) (hn : d.size ≤ 4096) :
    Calls Try.prog 80 #[v] w fun e w' => ∃ v', e = .returned v' ∧ Own w' w.heap.size v' d ∧ Below w.heap.size w w' := by
  obtain ⟨i0, hi, hz0, hz1, hz2⟩ := info_parts nItem_info
  obtain ⟨v', w1, hr, ho, hb⟩ := clone_nil 54 54 54 _ i0 Try.underlying54 ⟨_, Try.underlying54⟩ hi hz0 hz1 hz2 hv hn
  clear hv
  have HR := aside hr
  clear hr hi hz0 hz1 hz2
  go_enter Try.func80, Try.ntmps80
  go_wp2_with (at_builtin; refine Lib.wpList_append_run _ rfl _ _ _ _ rfl _ _ rfl rfl _ _ HR.out ?_)
  go_ret
  exact ⟨_, rfl, ho, hb⟩

/-- v is a list of n items at the head of block blk (of an empty one the block isn't told). -/
def Box (blk n : Nat) (v : Value) : Prop := ∃ A c, v = .slice A n c ∧ n ≤ c ∧ c ≤ maxLen ∧ (n = 0 ∨ A = some ⟨blk, 0, none⟩)

set_option maxHeartbeats 1000000 in
theorem slicesClone_any (v : Value) (d : Array (Int × Int)) (w : World) (B : Nat) (hv : Lst w B v d) (hn : d.size ≤ 4096) :
    Calls Try.prog 52 #[v] w fun e w' => ∃ v', e = .returned v' ∧ ∃ blk, Box blk d.size v' ∧ w.heap.size ≤ blk ∧ Tn blk d w' w' ∧ Below w.heap.size w w' := by
  obtain ⟨i0, hi, hz0, hz1, hz2⟩ := info_parts iItem_info
  have hv2 := hv
  obtain ⟨A, c, rfl, hc, hm, h⟩ := hv2
  cases A with
  | none =>
    have h0 : d.size = 0 := by
      rcases h with h | ⟨b, off, hab, _⟩
      · exact h
      · cases hab
    have HE : Aside (∃ v', Ending.returned (Value.slice none 0 0) = .returned v' ∧ ∃ blk, Box blk d.size v' ∧ w.heap.size ≤ blk ∧ Tn blk d w w ∧ Below w.heap.size w w) :=
      ⟨_, rfl, w.heap.size, ⟨none, 0, by rw [h0], by omega, by simp [maxLen], .inl h0⟩, Nat.le_refl _, Tn.empty h0 _ _, Below.refl _ _⟩
    clear hv h hi
    rw [h0] at *
    have hnil := fun (w : World) => Lib.run_eql_slice_nil (P := Try.prog) w 22 _ none 0 c 0 0 Try.underlying22
    go_enter Try.func52, Try.ntmps52
    go_wp2
    go_ret
    exact HE.out
  | some a =>
    have hv1 : Lst (w.alloc (.cells #[] 27)) (max B w.heap.size) (.slice (some a) d.size c) d := by
      obtain ⟨A', c', hv', hc', hm', h'⟩ := hv
      refine ⟨A', c', hv', hc', hm', h'.imp id ?_⟩
      rintro ⟨b, off, hab, hbB, hcell⟩
      exact ⟨b, off, hab, by omega, fun i hi => ⟨(World.cell?_alloc_lt w _ _ (World.block_lt_of_cell? w _ (hcell i hi).1)).trans (hcell i hi).1, (World.cell?_alloc_lt w _ _ (World.block_lt_of_cell? w _ (hcell i hi).2)).trans (hcell i hi).2⟩⟩
    obtain ⟨v', w1, hr, h2, h3, h4⟩ := clone_run 22 22 _ i0 Try.underlying22 hi hz0 hz1 hz2 (.slice (some ⟨w.heap.size, 0, none⟩) 0 0) w.heap.size
      (World.ownsRow_made w #[] 0 (Nat.le_refl _) (by simp [maxLen]) rfl) (by simp) hv1 (by simp) hn
    have HR := aside hr
    have HE : Aside (∃ v'', Ending.returned v' = .returned v'' ∧ ∃ blk, Box blk d.size v'' ∧ w.heap.size ≤ blk ∧ Tn blk d w1 w1 ∧ Below w.heap.size w w1) := by
      have hb : Below w.heap.size w w1 := ((Below.refl _ _).alloc (Nat.le_refl _) _).grown h3 (by simp) (fun k hk => by simp [Value.ownBlock] at hk; omega)
      have h5 := h2
      rcases h2.2 with ⟨e1, e2⟩ | ⟨g, cap, cur, rfl, hbg, hg, hc1, hm1, hs1, _⟩
      · exact absurd (h4.1 e1).1 (by simp)
      · by_cases h0 : d.size = 0
        · exact ⟨_, rfl, w1.heap.size, ⟨_, _, rfl, hc1, hm1, .inl h0⟩, hb.size, Tn.empty h0 _ _, hb⟩
        · rcases own_of_owns h5 rfl (fun e => absurd e h0) with ⟨e, _⟩ | ⟨g', c', e, _, _, _, hg', hH⟩
          · exact absurd e h0
          · injection e with e1 _ _
            injection e1 with e1
            injection e1 with e1 _ _
            subst e1
            exact ⟨_, rfl, g, ⟨_, _, rfl, hc1, hm1, .inr rfl⟩, hbg, Tn.start hH hg', hb⟩
    clear hv hv1 h hr h2 h3 h4 hi
    obtain ⟨n, hnd⟩ : ∃ n, d.size = n := ⟨_, rfl⟩
    rw [hnd] at HR hn hc ⊢
    rw [hnd] at HE
    clear hnd
    have hnil := fun (w : World) => Lib.run_eql_slice_nil (P := Try.prog) w 22 _ (some a) n c 0 0 Try.underlying22
    go_enter Try.func52, Try.ntmps52
    go_wp2_with (at_builtin; refine Lib.wpList_append_run _ rfl _ _ _ _ rfl _ _ rfl rfl _ _ HR.out ?_)
    go_ret
    exact HE.out
end Go.Proofs.Ytaifmeajfldckaa
