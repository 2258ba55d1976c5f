/- spec.SameItems of a list and one that holds the same items in a range in any order says true. Condition: at most 4096 items, 0 <= a <= b <= n. -/
import Derived.Test.YtaifmeajfldckaaSame
namespace Go.Proofs.Ytaifmeajfldckaa
open Go.RowKit Go.Sort Go.Proofs

theorem perm_cut0 {a b : Nat} {d d' : Array (Int × Int)} (h : PermIn a b d d') (hab : a ≤ b) (hb : b ≤ d.size) : d'.extract 0 a = d.extract 0 a := by
  obtain ⟨s, o, _⟩ := h
  apply Array.ext (by simp; omega)
  intro i p1 p2
  have h1 : i < a := by simp at p1; omega
  have := o i (.inl h1)
  rw [getElem!_pos d' i (by omega), getElem!_pos d i (by omega)] at this
  simpa using this
theorem perm_cut1 {a b : Nat} {d d' : Array (Int × Int)} (h : PermIn a b d d') (hb : b ≤ d.size) : d'.extract b d.size = d.extract b d.size := by
  obtain ⟨s, o, _⟩ := h
  apply Array.ext (by simp; omega)
  intro i p1 p2
  have h1 : i < d.size - b := by simp at p1; omega
  have := o (b + i) (.inr (by omega))
  rw [getElem!_pos d' _ (by omega), getElem!_pos d _ (by omega)] at this
  simpa using this

/-- One operation of a region that draws its order, taken first; its value is reckoned before the walk goes on. -/
theorem wpAny_take2 {P : Program} {md : Region.Mode} {ops : Array Oper} {Q : Exit → Act → World → Prop} {i : Nat} {oi : Oper} {v : Value} {fuel : Nat} {listed : Array Bool} {a : Act} {w : World} (hi : ops[i]? = some oi)
    (hs : Region.noSelect ops = true) (hf : Region.free md ops listed i = true) (hr : (Region.ready md ops listed).contains i = true)
    (hQ : ∀ c a w, Q (.panic c) (a.put oi.dst v) w → Q (.panic c) a w) (hy : Yields P ops oi v a)
    (h : ∀ K : Act → Prop, (∀ a', wpAny P md ops Q fuel (listed.setIfInBounds i true) a' w → K a') → K (a.put oi.dst v)) : wpAny P md ops Q (fuel + 1) listed a w :=
  wpAny_take hi hs hf hr hQ hy (h _ fun _ h => h)

set_option maxHeartbeats 4000000 in
set_option maxRecDepth 100000 in
theorem sameItems_any (v1 v2 : Value) (d1 d2 : Array (Int × Int)) (w : World) (B1 B2 : Nat) (hv1 : Lst w B1 v1 d1) (hv2 : Lst w B2 v2 d2) (hB1 : B1 ≤ w.heap.size) (hB2 : B2 ≤ w.heap.size) (hn : d2.size ≤ 4096) (a b : Nat) (hab : a ≤ b) (hb : b ≤ d2.size) (hp : PermIn a b d2 d1) :
    Calls Try.prog 28 #[v1, v2, .int .i64 a, .int .i64 b] w fun e w' => e = .returned (.bool true) ∧ Below w.heap.size w w' := by
  have hv1 := hv1.mono hB1
  have hv2 := hv2.mono hB2
  have hk0 := perm_cut0 hp hab hb
  have hk1 := perm_cut1 hp hb
  have hk2 := same_full hp hab hb
  have hsz : d1.size = d2.size := hp.1
  clear hp
  have HV1 := aside hv1
  have HV2 := aside hv2
  obtain ⟨A1, c1, rfl, hc1, hm1, -⟩ := hv1
  obtain ⟨A2, c2, rfl, hc2, hm2, -⟩ := hv2
  obtain ⟨n, hnd⟩ : ∃ n, d2.size = n := ⟨_, rfl⟩
  rw [hnd] at hsz hn hb hc2 hk1 HV2 ⊢
  rw [hsz] at hc1 HV1 ⊢
  have L1 := HV1.out.cut hsz 0 a (Nat.zero_le _) (by omega)
  have L2 := HV2.out.cut hnd 0 a (Nat.zero_le _) (by omega)
  have L3 := HV1.out.cut hsz b n hb (Nat.le_refl _)
  have L4 := HV2.out.cut hnd b n hb (Nat.le_refl _)
  have e0 : ∀ (A : Option Addr) (c : Nat), (if c = 0 then A else A.map (·.add (0 * 2))) = A := by
    intro A c; split <;> (cases A <;> simp [Addr.add]; try (rename_i x; obtain ⟨_, _, s⟩ := x; cases s <;> rfl))
  rw [e0, Nat.sub_zero, Nat.sub_zero] at L1 L2
  rw [hk0] at L1
  rw [hk1] at L3
  obtain ⟨X1, hX1⟩ : ∃ X, (if c1 = b then A1 else Option.map (fun x => x.add (b * 2)) A1) = X := ⟨_, rfl⟩
  obtain ⟨X2, hX2⟩ : ∃ X, (if c2 = b then A2 else Option.map (fun x => x.add (b * 2)) A2) = X := ⟨_, rfl⟩
  rw [hX1] at L3
  rw [hX2] at L4
  have s0 : (d2.extract 0 a).size ≤ 4096 := by simp; omega
  have s1 : (d2.extract b n).size ≤ 4096 := by simp; omega
  have E1 : Aside (∀ wx, Below w.heap.size w wx → Calls Try.prog 22 #[.slice A1 a c1, .slice A2 a c2] wx fun e w' => e = .returned (.bool true) ∧ Aside (Below w.heap.size w w')) := by
    intro wx hx
    exact (equal_same _ _ _ wx _ _ (L1.below hx) (L2.below hx) s0).mono fun e w' ⟨h1, q, h2⟩ => ⟨h1, by rw [h2]; exact hx.trans ((below_drewN wx q).mono hx.size)⟩
  have E2 : Aside (∀ wx, Below w.heap.size w wx → Calls Try.prog 22 #[.slice X1 (n - b) (c1 - b), .slice X2 (n - b) (c2 - b)] wx fun e w' => e = .returned (.bool true) ∧ Aside (Below w.heap.size w w')) := by
    intro wx hx
    exact (equal_same _ _ _ wx _ _ (L3.below hx) (L4.below hx) s1).mono fun e w' ⟨h1, q, h2⟩ => ⟨h1, by rw [h2]; exact hx.trans ((below_drewN wx q).mono hx.size)⟩
  have F1 : Aside (∀ wx, Below w.heap.size w wx → Calls Try.prog 56 #[.slice A1 n c1, .int .i64 a, .int .i64 b] wx fun e w' => ∃ v', e = .returned v' ∧ Aside (Lst w' w'.heap.size v' (insertionSort ltF d2 a b)) ∧ Aside (Below w.heap.size w w')) := by
    intro wx hx
    have := full_any (.slice A1 n c1) d1 wx _ (HV1.out.below hx) (by omega) a b hab (by omega)
    rw [hk2] at this
    exact this.mono fun e w' ⟨v', h1, h2, h3⟩ => ⟨v', h1, h2, hx.trans (h3.mono hx.size)⟩
  have F2 : Aside (∀ wx vo, Below w.heap.size w wx → Lst wx wx.heap.size vo (insertionSort ltF d2 a b) → Calls Try.prog 56 #[.slice A2 n c2, .int .i64 a, .int .i64 b] wx fun e w' => ∃ v', e = .returned v' ∧ Aside (Lst w' w'.heap.size v' (insertionSort ltF d2 a b)) ∧ Aside (Lst w' wx.heap.size vo (insertionSort ltF d2 a b)) ∧ Aside (Below w.heap.size w w')) := by
    intro wx vo hx hl
    have := full_any (.slice A2 n c2) d2 wx _ (HV2.out.below hx) (by omega) a b hab (by omega)
    exact this.mono fun e w' ⟨v', h1, h2, h3⟩ => ⟨v', h1, h2, hl.below h3, hx.trans (h3.mono hx.size)⟩
  have HS : Aside ((insertionSort ltF d2 a b).size ≤ 4096) := by show _ ≤ _; rw [ins_size, hnd]; exact hn
  have b1 : (a : Int) ≤ (c1 : Int) := by omega
  have b2 : (a : Int) ≤ (c2 : Int) := by omega
  have b3 : (b : Int) ≤ (n : Int) := by omega
  have h0 : Below w.heap.size w w.drew := below_drewN w 1
  have H0 := aside h0
  clear L1 L2 L3 L4 s0 s1 hk0 hk1 hk2 HV1 HV2 hsz hnd e0 h0
  go_enter Try.func28, Try.ntmps28
  go_wp2_with fail
  refine wp_region_any (by kernel_rfl) ?_
  change wpAny _ _ _ _ _ _ _ (World.drew _)
  refine wpAny_take2 (i := 0) (v := ?_) rfl (by kernel_rfl) (by kernel_rfl) (by kernel_rfl) (fun _ _ _ h => h) (Or.inl ⟨by rfl, ?_⟩) ?_
  rotate_left
  · intro w'; go_simp; try with_reducible rfl
  intro K hK; go_simp; refine hK _ ?_; clear hK K
  refine wpAny_take2 (i := 1) (v := ?_) rfl (by kernel_rfl) (by kernel_rfl) (by kernel_rfl) (fun _ _ _ h => h) (Or.inl ⟨by rfl, ?_⟩) ?_
  rotate_left
  · intro w'; go_simp; try with_reducible rfl
  intro K hK; go_simp; refine hK _ ?_; clear hK K
  refine wpAny_take2 (i := 2) (v := ?_) rfl (by kernel_rfl) (by kernel_rfl) (by kernel_rfl) (fun _ _ _ h => h) (Or.inl ⟨by rfl, ?_⟩) ?_
  rotate_left
  · intro w'; go_simp; try with_reducible rfl
  intro K hK; go_simp; refine hK _ ?_; clear hK K
  refine wpAny_take2 (i := 3) (v := ?_) rfl (by kernel_rfl) (by kernel_rfl) (by kernel_rfl) (fun _ _ _ h => h) (Or.inl ⟨by rfl, ?_⟩) ?_
  rotate_left
  · intro w'; go_simp; try with_reducible rfl
  intro K hK; go_simp; refine hK _ ?_; clear hK K
  refine wpAny_take2 (i := 4) (v := ?_) rfl (by kernel_rfl) (by kernel_rfl) (by kernel_rfl) (fun _ _ _ h => h) (Or.inl ⟨by rfl, ?_⟩) ?_
  rotate_left
  · intro w'; go_simp; try with_reducible rfl
  intro K hK; go_simp; refine hK _ ?_; clear hK K
  refine wpAny_take2 (i := 5) (v := ?_) rfl (by kernel_rfl) (by kernel_rfl) (by kernel_rfl) (fun _ _ _ h => h) (Or.inl ⟨by rfl, ?_⟩) ?_
  rotate_left
  · intro w'; go_simp; try with_reducible rfl
  intro K hK; go_simp; refine hK _ ?_; clear hK K
  refine wpAny_take2 (i := 6) (v := ?_) rfl (by kernel_rfl) (by kernel_rfl) (by kernel_rfl) (fun _ _ _ h => h) (Or.inl ⟨by rfl, ?_⟩) ?_
  rotate_left
  · intro w'; go_simp; try with_reducible rfl
  intro K hK; go_simp; refine hK _ ?_; clear hK K
  refine wpAny_take2 (i := 7) (v := ?_) rfl (by kernel_rfl) (by kernel_rfl) (by kernel_rfl) (fun _ _ _ h => h) (Or.inl ⟨by rfl, ?_⟩) ?_
  rotate_left
  · intro w'; go_simp; try with_reducible rfl
  intro K hK; go_simp; refine hK _ ?_; clear hK K
  refine wpAny_take2 (i := 8) (v := ?_) rfl (by kernel_rfl) (by kernel_rfl) (by kernel_rfl) (fun _ _ _ h => h) (Or.inl ⟨by rfl, ?_⟩) ?_
  rotate_left
  · intro w'; go_simp; try with_reducible rfl
  intro K hK; go_simp; refine hK _ ?_; clear hK K
  refine wpAny_take2 (i := 9) (v := ?_) rfl (by kernel_rfl) (by kernel_rfl) (by kernel_rfl) (fun _ _ _ h => h) (Or.inl ⟨by rfl, ?_⟩) ?_
  rotate_left
  · intro w'; go_simp; try with_reducible rfl
  intro K hK; go_simp; refine hK _ ?_; clear hK K
  refine wpAny_take2 (i := 10) (v := ?_) rfl (by kernel_rfl) (by kernel_rfl) (by kernel_rfl) (fun _ _ _ h => h) (Or.inl ⟨by rfl, ?_⟩) ?_
  rotate_left
  · intro w'; go_simp; try with_reducible rfl
  intro K hK; go_simp; refine hK _ ?_; clear hK K
  refine wpAny_take2 (i := 11) (v := ?_) rfl (by kernel_rfl) (by kernel_rfl) (by kernel_rfl) (fun _ _ _ h => h) (Or.inl ⟨by rfl, ?_⟩) ?_
  rotate_left
  · intro w'; go_simp; try with_reducible rfl
  intro K hK; go_simp; refine hK _ ?_; clear hK K
  refine wpAny_ready (rs := [12]) (by kernel_rfl) (by simp) (AllReady.cons rfl (fun K hK => ?_) AllReady.nil)
  go_simp
  refine (E1.out _ ?_).mono ?_
  · exact H0.out
  rintro e wa ⟨rfl, HA⟩
  go_simp
  refine hK _ _ ?_
  clear hK K
  refine wpAny_take2 (i := 13) (v := ?_) rfl (by kernel_rfl) (by kernel_rfl) (by kernel_rfl) (fun _ _ _ h => h) (Or.inl ⟨by rfl, ?_⟩) ?_
  rotate_left
  · intro w'; go_simp; try with_reducible rfl
  intro K hK; go_simp; refine hK _ ?_; clear hK K
  refine wpAny_take2 (i := 14) (v := ?_) rfl (by kernel_rfl) (by kernel_rfl) (by kernel_rfl) (fun _ _ _ h => h) (Or.inl ⟨by rfl, ?_⟩) ?_
  rotate_left
  · intro w'; go_simp; try with_reducible rfl
  intro K hK; go_simp; refine hK _ ?_; clear hK K
  refine wpAny_take2 (i := 15) (v := ?_) rfl (by kernel_rfl) (by kernel_rfl) (by kernel_rfl) (fun _ _ _ h => h) (Or.inl ⟨by rfl, ?_⟩) ?_
  rotate_left
  · intro w'; go_simp; try with_reducible rfl
  intro K hK; go_simp; refine hK _ ?_; clear hK K
  refine wpAny_take2 (i := 16) (v := ?_) rfl (by kernel_rfl) (by kernel_rfl) (by kernel_rfl) (fun _ _ _ h => h) (Or.inl ⟨by rfl, ?_⟩) ?_
  rotate_left
  · intro w'; go_simp; try with_reducible rfl
  intro K hK; go_simp; refine hK _ ?_; clear hK K
  refine wpAny_take2 (i := 17) (v := ?_) rfl (by kernel_rfl) (by kernel_rfl) (by kernel_rfl) (fun _ _ _ h => h) (Or.inl ⟨by rfl, ?_⟩) ?_
  rotate_left
  · intro w'; go_simp; try with_reducible rfl
  intro K hK; go_simp; refine hK _ ?_; clear hK K
  refine wpAny_take2 (i := 18) (v := ?_) rfl (by kernel_rfl) (by kernel_rfl) (by kernel_rfl) (fun _ _ _ h => h) (Or.inl ⟨by rfl, ?_⟩) ?_
  rotate_left
  · intro w'; go_simp; try with_reducible rfl
  intro K hK; go_simp; refine hK _ ?_; clear hK K
  refine wpAny_take2 (i := 19) (v := ?_) rfl (by kernel_rfl) (by kernel_rfl) (by kernel_rfl) (fun _ _ _ h => h) (Or.inl ⟨by rfl, ?_⟩) ?_
  rotate_left
  · intro w'; go_simp; try with_reducible rfl
  intro K hK; go_simp; refine hK _ ?_; clear hK K
  refine wpAny_take2 (i := 20) (v := ?_) rfl (by kernel_rfl) (by kernel_rfl) (by kernel_rfl) (fun _ _ _ h => h) (Or.inl ⟨by rfl, ?_⟩) ?_
  rotate_left
  · intro w'; go_simp; try with_reducible rfl
  intro K hK; go_simp; refine hK _ ?_; clear hK K
  refine wpAny_ready (rs := [21]) (by kernel_rfl) (by simp) (AllReady.cons rfl (fun K hK => ?_) AllReady.nil)
  go_simp
  refine (E2.out _ ?_).mono ?_
  · exact HA.out
  rintro e wb ⟨rfl, HB⟩
  go_simp
  refine hK _ _ ?_
  clear hK K
  refine wpAny_take2 (i := 22) (v := ?_) rfl (by kernel_rfl) (by kernel_rfl) (by kernel_rfl) (fun _ _ _ h => h) (Or.inl ⟨by rfl, ?_⟩) ?_
  rotate_left
  · intro w'; go_simp; try with_reducible rfl
  intro K hK; go_simp; refine hK _ ?_; clear hK K
  refine wpAny_take2 (i := 23) (v := ?_) rfl (by kernel_rfl) (by kernel_rfl) (by kernel_rfl) (fun _ _ _ h => h) (Or.inl ⟨by rfl, ?_⟩) ?_
  rotate_left
  · intro w'; go_simp; try with_reducible rfl
  intro K hK; go_simp; refine hK _ ?_; clear hK K
  refine wpAny_take2 (i := 24) (v := ?_) rfl (by kernel_rfl) (by kernel_rfl) (by kernel_rfl) (fun _ _ _ h => h) (Or.inl ⟨by rfl, ?_⟩) ?_
  rotate_left
  · intro w'; go_simp; try with_reducible rfl
  intro K hK; go_simp; refine hK _ ?_; clear hK K
  refine wpAny_take2 (i := 25) (v := ?_) rfl (by kernel_rfl) (by kernel_rfl) (by kernel_rfl) (fun _ _ _ h => h) (Or.inl ⟨by rfl, ?_⟩) ?_
  rotate_left
  · intro w'; go_simp; try with_reducible rfl
  intro K hK; go_simp; refine hK _ ?_; clear hK K
  refine wpAny_take2 (i := 26) (v := ?_) rfl (by kernel_rfl) (by kernel_rfl) (by kernel_rfl) (fun _ _ _ h => h) (Or.inl ⟨by rfl, ?_⟩) ?_
  rotate_left
  · intro w'; go_simp; try with_reducible rfl
  intro K hK; go_simp; refine hK _ ?_; clear hK K
  refine wpAny_take2 (i := 28) (v := ?_) rfl (by kernel_rfl) (by kernel_rfl) (by kernel_rfl) (fun _ _ _ h => h) (Or.inl ⟨by rfl, ?_⟩) ?_
  rotate_left
  · intro w'; go_simp; try with_reducible rfl
  intro K hK; go_simp; refine hK _ ?_; clear hK K
  refine wpAny_take2 (i := 29) (v := ?_) rfl (by kernel_rfl) (by kernel_rfl) (by kernel_rfl) (fun _ _ _ h => h) (Or.inl ⟨by rfl, ?_⟩) ?_
  rotate_left
  · intro w'; go_simp; try with_reducible rfl
  intro K hK; go_simp; refine hK _ ?_; clear hK K
  refine wpAny_take2 (i := 30) (v := ?_) rfl (by kernel_rfl) (by kernel_rfl) (by kernel_rfl) (fun _ _ _ h => h) (Or.inl ⟨by rfl, ?_⟩) ?_
  rotate_left
  · intro w'; go_simp; try with_reducible rfl
  intro K hK; go_simp; refine hK _ ?_; clear hK K
  refine wpAny_ready (rs := [27]) (by kernel_rfl) (by simp) (AllReady.cons rfl (fun K hK => ?_) AllReady.nil)
  go_simp
  refine (F1.out _ ?_).mono ?_
  · exact HB.out
  rintro e wc ⟨vf, rfl, lf, HC⟩
  go_simp
  refine hK _ _ ?_
  clear hK K
  refine wpAny_ready (rs := [31]) (by kernel_rfl) (by simp) (AllReady.cons rfl (fun K hK => ?_) AllReady.nil)
  go_simp
  refine (F2.out _ _ ?_ lf.out).mono ?_
  · exact HC.out
  rintro e wd ⟨vg, rfl, lg, lf2, HD⟩
  go_simp
  refine hK _ _ ?_
  clear hK K
  refine wpAny_ready (rs := [32]) (by kernel_rfl) (by simp) (AllReady.cons rfl (fun K hK => ?_) AllReady.nil)
  go_simp
  refine (equal_same _ _ _ _ _ _ lf2.out lg.out HS.out).mono ?_
  rintro e we ⟨rfl, q, rfl⟩
  go_simp
  refine hK _ _ ?_
  clear hK K
  refine wpAny_take2 (i := 33) (v := ?_) rfl (by kernel_rfl) (by kernel_rfl) (by kernel_rfl) (fun _ _ _ h => h) (Or.inl ⟨by rfl, ?_⟩) ?_
  rotate_left
  · intro w'; go_simp; try with_reducible rfl
  intro K hK; go_simp; refine hK _ ?_; clear hK K
  refine wpAny_take2 (i := 34) (v := ?_) rfl (by kernel_rfl) (by kernel_rfl) (by kernel_rfl) (fun _ _ _ h => h) (Or.inl ⟨by rfl, ?_⟩) ?_
  rotate_left
  · intro w'; go_simp; try with_reducible rfl
  intro K hK; go_simp; refine hK _ ?_; clear hK K
  refine wpAny_done (by kernel_rfl) ?_ _
  go_wp2_with fail
  go_ret
  exact ⟨rfl, HD.out.trans ((below_drewN _ q).mono HD.out.size)⟩
end Go.Proofs.Ytaifmeajfldckaa
