/- The walk of the law FnExactRotate: two parts of a range are exchanged. It returns true for every input, and leaves all that lay there as it was. No condition. -/
import Derived.Test.YtaifmeajfldckaaWRot
import Derived.Test.YtaifmeajfldckaaCut
namespace Go.Proofs.Ytaifmeajfldckaa
open Go.RowKit Go.Sort Go.Proofs

theorem four_is (d0 d1 d2 d3 : Array (Int × Int)) : ∃ ds : Nat → Array (Int × Int), ds 0 = d0 ∧ ds 1 = d1 ∧ ds 2 = d2 ∧ ds 3 = d3 :=
  ⟨fun k => match k with | 0 => d0 | 1 => d1 | 2 => d2 | _ => d3, rfl, rfl, rfl, rfl⟩

set_option maxHeartbeats 4000000 in
set_option maxRecDepth 100000 in
theorem lawFnExactRotate (v : Value) (d : Array (Int × Int)) (w : World) (hv : Lst w w.heap.size v d) (a : Int) (m : Int) (b : Int) (_wa : (Lit.int .i64 a).wf = true) (_wm : (Lit.int .i64 m).wf = true) (_wb : (Lit.int .i64 b).wf = true) :
    Calls Try.prog 5 #[v, .int .i64 a, .int .i64 m, .int .i64 b] w fun e w' => e = .returned (.bool true) ∧ Below w.heap.size w w' := by
  have HV := aside hv
  obtain ⟨A, c, rfl, hc, hm, _⟩ := hv
  by_cases hr : 0 ≤ a ∧ a ≤ b ∧ b ≤ d.size ∧ d.size ≤ 4096
  · obtain ⟨h1, h2, h3, hn⟩ := hr
    obtain ⟨a, rfl⟩ := Int.eq_ofNat_of_zero_le h1
    obtain ⟨b, rfl⟩ := Int.eq_ofNat_of_zero_le (Int.le_trans h1 h2)
    have hab : a ≤ b := by omega
    have hbn : b ≤ d.size := by omega
    have hR := itemRange_yes A d.size c a b w h1 h2 h3 hn
    have g1 : ¬ (2147483647 : Int) < (d.size : Int) := by omega
    clear h1 h2 h3
    by_cases ham : (a : Int) ≥ m
    · go_enter Try.func5, Try.ntmps5
      go_wp2_with fail
      refine hR.mono ?_
      rintro e w' ⟨rfl, hw⟩
      obtain rfl : w = w' := hw.symm
      clear hR
      go_wp2_with fail
      go_ret
      exact ⟨rfl, Below.refl _ _⟩
    · by_cases hmb : m ≥ (b : Int)
      · go_enter Try.func5, Try.ntmps5
        go_wp2_with fail
        refine hR.mono ?_
        rintro e w' ⟨rfl, hw⟩
        obtain rfl : w = w' := hw.symm
        clear hR
        go_wp2_with fail
        go_ret
        exact ⟨rfl, Below.refl _ _⟩
      · obtain ⟨m, rfl⟩ := Int.eq_ofNat_of_zero_le (show 0 ≤ m by omega)
        have ham' : a < m := by omega
        have hmb' : m < b := by omega
        obtain ⟨n, hnd⟩ : ∃ n, d.size = n := ⟨_, rfl⟩
        rw [hnd] at hR hc hn hbn g1 ⊢
        have HN := aside hnd
        have HV2 : Aside (Lst w w.heap.size (.slice A n c) d) := by rw [← hnd]; exact HV.out
        clear hnd HV
        have b1 : (a : Int) ≤ (m : Int) := by omega
        have b2 : (m : Int) ≤ (b : Int) := by omega
        have b3 : (b : Int) ≤ (n : Int) := by omega
        have b4 : (n : Int) ≤ (c : Int) := by omega
        have b5 : (b : Int) ≤ (c : Int) := by omega
        have b6 : (m : Int) ≤ (c : Int) := by omega
        have b7 : (a : Int) ≤ (c : Int) := by omega
        have b8 : ¬ c = m := by omega
        have b9 : ¬ c = a := by omega
        have L0 := aside (HV2.out.cut HN.out 0 a (Nat.zero_le _) (by omega))
        have L1 := aside (HV2.out.cut HN.out m b (by omega) hbn)
        have L2 := aside (HV2.out.cut HN.out a m (by omega) (by omega))
        have L3 := aside (HV2.out.cut HN.out b n hbn (Nat.le_refl _))
        have e0 : (if c = 0 then A else A.map (·.add (0 * 2))) = A := by split <;> (cases A <;> simp [Addr.add]; try (rename_i x; obtain ⟨_, _, s⟩ := x; cases s <;> rfl))
        rw [e0, Nat.sub_zero, Nat.sub_zero] at L0
        rw [if_neg b8] at L1
        rw [if_neg b9] at L2
        clear e0
        have FR : Aside (∀ wx, Below w.heap.size w wx → Calls Try.prog 25 #[.slice A n c, .int .i64 a, .int .i64 m, .int .i64 b] wx fun e w' => ∃ v', e = .returned v' ∧ Aside (Lst w' w'.heap.size v' (Pl.rotate d a m b)) ∧ Aside (Below wx.heap.size wx w') ∧ Aside (Below w.heap.size w wx)) := by
          intro wx hx
          have := iRot_any (.slice A n c) d wx w.heap.size (HV2.out.below hx) hx.size (by rw [HN.out]; exact hn) a m b ham' hmb' (by rw [HN.out]; exact hbn)
          exact this.mono fun e w' ⟨v', h1, h2, h3⟩ => ⟨v', h1, h2, h3, hx⟩
        have FC : Aside (∀ wx g A0 c0 A1 c1 A2 c2 A3 c3, Lst w w.heap.size (.slice A0 a c0) (d.extract 0 a) → Lst w w.heap.size (.slice A1 (b - m) c1) (d.extract m b) → Lst w w.heap.size (.slice A2 (m - a) c2) (d.extract a m) → Lst w w.heap.size (.slice A3 (n - b) c3) (d.extract b n) →
            Below w.heap.size w wx → g < wx.heap.size → wx.cell? ⟨g, 0, none⟩ = some (.slice A0 a c0) → wx.cell? ⟨g, 1, none⟩ = some (.slice A1 (b - m) c1) → wx.cell? ⟨g, 2, none⟩ = some (.slice A2 (m - a) c2) → wx.cell? ⟨g, 3, none⟩ = some (.slice A3 (n - b) c3) →
            Calls Try.prog 26 #[.slice (some ⟨g, 0, none⟩) 4 4] wx fun e w' => ∃ v', e = .returned v' ∧ Aside (Lst w' w'.heap.size v' (Pl.rotate d a m b)) ∧ Aside (Below wx.heap.size wx w')) := by
          intro wx g A0 c0 A1 c1 A2 c2 A3 c3 l0 l1 l2 l3 hx hg k0 k1 k2 k3
          have hd := HN.out
          have s0 : (d.extract 0 a).size = a := by simp; omega
          have s1 : (d.extract m b).size = b - m := by simp; omega
          have s2 : (d.extract a m).size = m - a := by simp; omega
          have s3 : (d.extract b n).size = n - b := by simp; omega
          obtain ⟨ds, q0, q1, q2, q3⟩ := four_is (d.extract 0 a) (d.extract m b) (d.extract a m) (d.extract b n)
          have ht : tot ds 4 ≤ 4096 := by simp only [tot, q0, q1, q2, q3, s0, s1, s2, s3]; omega
          refine (concat_any g w.heap.size ds wx hx.size hg ht ?_).mono ?_
          · intro k hk
            have hk4 : k = 0 ∨ k = 1 ∨ k = 2 ∨ k = 3 := by omega
            rcases hk4 with rfl | rfl | rfl | rfl
            · rw [q0, s0]; exact ⟨A0, c0, k0, l0.below hx⟩
            · rw [q1, s1]; exact ⟨A1, c1, k1, l1.below hx⟩
            · rw [q2, s2]; exact ⟨A2, c2, k2, l2.below hx⟩
            · rw [q3, s3]; exact ⟨A3, c3, k3, l3.below hx⟩
          · rintro e w' ⟨v', rfl, ho, hb⟩
            refine ⟨v', rfl, ?_, hb⟩
            have := ho.lst (Nat.le_refl _)
            rwa [rotate_cat d a m b ham' hmb' (by omega) ds q0 q1 q2 (by rw [hd]; exact q3)] at this
        have HSZ : Aside ((Pl.rotate d a m b).size ≤ 4096) := by show _ ≤ _; rw [Pl.rotate_size, HN.out]; exact hn
        by_cases hcb : c = b
        · rw [if_pos hcb] at L3
          have hnb : n = b := by omega
          subst hcb
          subst hnb
          rw [Nat.sub_self] at L3
          have FC2 := FC.out
          simp only [Nat.sub_self] at FC2
          have FC := aside FC2
          clear FC2
          go_enter Try.func5, Try.ntmps5
          go_wp2_with fail
          refine hR.mono ?_
          rintro e w' ⟨rfl, hw⟩
          obtain rfl : w = w' := hw.symm
          clear hR
          go_wp2_with fail
          go_region_with (first
            | (go_at_call 25; refine (FR.out _ ?hx).mono ?_; case hx => (first | exact below_drewN w 1 | exact (below_drewN w 1).alloc (Nat.le_refl _) _);
               rintro e wr ⟨vr, rfl, hl, hb, hx⟩)
            | (go_at_call 26; refine (FC.out _ _ _ _ _ _ _ _ _ _ L0.out L1.out L2.out L3.out ?h1 ?h2 ?h3 ?h4 ?h5 ?h6).mono ?_;
               case h1 => (first | exact hx.out.trans (hb.out.mono hx.out.size) | exact (hx.out.trans (hb.out.mono hx.out.size)).alloc (Nat.le_trans hx.out.size hb.out.size) _);
               case h2 => (first | exact Nat.lt_of_lt_of_le (by simp) hb.out.size | simp);
               case h3 => (first | exact (hb.out.cell (p := ⟨_, 0, none⟩) (by simp)).trans (by simp) | simp);
               case h4 => (first | exact (hb.out.cell (p := ⟨_, 1, none⟩) (by simp)).trans (by simp) | simp);
               case h5 => (first | exact (hb.out.cell (p := ⟨_, 2, none⟩) (by simp)).trans (by simp) | simp);
               case h6 => (first | exact (hb.out.cell (p := ⟨_, 3, none⟩) (by simp)).trans (by simp) | simp);
               rintro e w3 ⟨vc, rfl, hl2, hb2⟩;
               have hE : Aside (Lst w3 wr.heap.size vr (Pl.rotate d a m _)) := (by first | exact hl.out.below hb2.out | exact hl.out.below (((Below.refl _ _).alloc (Nat.le_refl _) _).trans (hb2.out.mono (by simp))));
               have hZ : Aside (Below w.heap.size w w3) := (by first | exact hx.out.trans ((hb.out.mono hx.out.size).trans (hb2.out.mono (Nat.le_trans hx.out.size hb.out.size))) | exact ((hx.out.trans (hb.out.mono hx.out.size)).alloc (Nat.le_trans hx.out.size hb.out.size) _).trans (hb2.out.mono (by have := hx.out.size; have := hb.out.size; simp at *; omega))))
            | (go_at_call 22; refine (equal_same _ _ _ _ _ _ hE.out hl2.out HSZ.out).mono ?_; rintro e w4 ⟨rfl, q, rfl⟩))
          all_goals
            go_wp2_with fail
            go_ret
            exact ⟨rfl, hZ.out.trans ((below_drewN _ q).mono hZ.out.size)⟩
        · rw [if_neg hcb] at L3
          go_enter Try.func5, Try.ntmps5
          go_wp2_with fail
          refine hR.mono ?_
          rintro e w' ⟨rfl, hw⟩
          obtain rfl : w = w' := hw.symm
          clear hR
          go_wp2_with fail
          go_region_with (first
            | (go_at_call 25; refine (FR.out _ ?hx).mono ?_; case hx => (first | exact below_drewN w 1 | exact (below_drewN w 1).alloc (Nat.le_refl _) _);
               rintro e wr ⟨vr, rfl, hl, hb, hx⟩)
            | (go_at_call 26; refine (FC.out _ _ _ _ _ _ _ _ _ _ L0.out L1.out L2.out L3.out ?h1 ?h2 ?h3 ?h4 ?h5 ?h6).mono ?_;
               case h1 => (first | exact hx.out.trans (hb.out.mono hx.out.size) | exact (hx.out.trans (hb.out.mono hx.out.size)).alloc (Nat.le_trans hx.out.size hb.out.size) _);
               case h2 => (first | exact Nat.lt_of_lt_of_le (by simp) hb.out.size | simp);
               case h3 => (first | exact (hb.out.cell (p := ⟨_, 0, none⟩) (by simp)).trans (by simp) | simp);
               case h4 => (first | exact (hb.out.cell (p := ⟨_, 1, none⟩) (by simp)).trans (by simp) | simp);
               case h5 => (first | exact (hb.out.cell (p := ⟨_, 2, none⟩) (by simp)).trans (by simp) | simp);
               case h6 => (first | exact (hb.out.cell (p := ⟨_, 3, none⟩) (by simp)).trans (by simp) | simp);
               rintro e w3 ⟨vc, rfl, hl2, hb2⟩;
               have hE : Aside (Lst w3 wr.heap.size vr (Pl.rotate d a m _)) := (by first | exact hl.out.below hb2.out | exact hl.out.below (((Below.refl _ _).alloc (Nat.le_refl _) _).trans (hb2.out.mono (by simp))));
               have hZ : Aside (Below w.heap.size w w3) := (by first | exact hx.out.trans ((hb.out.mono hx.out.size).trans (hb2.out.mono (Nat.le_trans hx.out.size hb.out.size))) | exact ((hx.out.trans (hb.out.mono hx.out.size)).alloc (Nat.le_trans hx.out.size hb.out.size) _).trans (hb2.out.mono (by have := hx.out.size; have := hb.out.size; simp at *; omega))))
            | (go_at_call 22; refine (equal_same _ _ _ _ _ _ hE.out hl2.out HSZ.out).mono ?_; rintro e w4 ⟨rfl, q, rfl⟩))
          all_goals
            go_wp2_with fail
            go_ret
            exact ⟨rfl, hZ.out.trans ((below_drewN _ q).mono hZ.out.size)⟩
  · have hR := itemRange_no A d.size c a b w hr
    unfold maxLen at hm
    generalize d.size = n at hc hR ⊢
    clear hr HV
    by_cases g1 : (2147483647 : Int) < (n : Int)
    · clear hR
      go_enter Try.func5, Try.ntmps5
      go_wp2_with fail
      go_ret
      exact ⟨rfl, Below.refl _ _⟩
    · go_enter Try.func5, Try.ntmps5
      go_wp2_with fail
      refine hR.mono ?_
      rintro e w' ⟨rfl, hw⟩
      obtain rfl : w = w' := hw.symm
      clear hR
      go_wp2_with fail
      go_ret
      exact ⟨rfl, Below.refl _ _⟩
end Go.Proofs.Ytaifmeajfldckaa
