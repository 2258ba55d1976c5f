/- slices' breakPatternsCmpFunc of items does what the plain one does. Conditions: 0 <= a <= b <= n. -/
import Derived.Test.YtaifmeajfldckaaCmp
import Derived.Test.YtaifmeajfldckaaBits
namespace Go.Proofs.Ytaifmeajfldckaa
open Go.RowKit Go.Sort Go.Proofs

section
variable {blk n c1 : Nat}

set_option maxHeartbeats 8000000 in
set_option maxRecDepth 100000 in
theorem tbreakPatterns_go (d : Array (Int × Int)) (w : World) (h : Tn blk d w w) (hs : d.size = n) (hn : n ≤ 4096) (a L : Nat) (hb : a + L ≤ n) (h8 : 8 ≤ L) :
    Calls Try.prog 107 #[.slice (some ⟨blk, 0, none⟩) n c1, .int .i64 a, .int .i64 ((a + L : Nat) : Int), .func (.func 82) #[] #[]] w fun e w' => e = .returned (.tuple #[]) ∧ Tn blk (breakPatterns d a (a + L)) w w' := by
  rw [breakPatterns_eq d a L h8]
  
  have hL62 : L < 4611686018427387904 := by omega
  obtain ⟨Md, hM⟩ : ∃ Md : Nat, Md = 1 <<< bitsLen L := ⟨_, rfl⟩
  have hM1 : 1 ≤ Md := by rw [hM, Nat.one_shiftLeft]; exact Nat.two_pow_pos _
  have hM2 : Md ≤ 2 * L := by rw [hM, Nat.one_shiftLeft]; exact two_pow_bitsLen_le (by omega)
  have hNP : ∀ w, Calls Try.prog 117 #[.int .i64 (L : Int)] w fun e w' => e = .returned (.int .u64 (Md : Int)) ∧ w' = w := by rw [hM]; exact fun w => tnextPow_any L hL62 w
  rw [← hM]
  have NP := aside hNP
  clear hM hNP
  have hLz : ((a : Int) + (L : Int) - (a : Int)) = (L : Int) := by omega
  have h8z : (8 : Int) ≤ (L : Int) := by omega
  have HB := aside (h.lt_of (i := a) (by omega))
  have ek := byKey_enters
  have H := aside h
  have HS := aside hs
  clear h hs
  go_enter Try.func107, Try.ntmps107
  go_wp2_with fail
  refine (NP.out _).mono ?_
  rintro e w1 ⟨rfl, hw1⟩
  obtain rfl := hw1.symm
  go_wp2_with fail
  go_loopg [11] 3 (fun g1 vi wr => ∃ (t : Nat) (r : UInt64) (dk : Array (Int × Int)), vi = .int .i64 ((a : Int) + (L : Int) / 4 * 2 - 1 + (t : Int)) ∧ t ≤ 3 ∧ 3 - t ≤ g1 ∧ Aside (dk.size = n) ∧ Aside (Cv blk dk w w.heap.size (.int .u64 (r.toNat : Int)) wr) ∧ Aside (bpRest a L Md (a + L / 4 * 2 - 1) (3 - t) t (r, dk) = bpRest a L Md (a + L / 4 * 2 - 1) 3 0 (UInt64.ofNat L, d)))
  case atStart =>
    refine ⟨0, UInt64.ofNat L, d, by simp, by omega, by omega, HS, ?_, rfl⟩
    rw [show (UInt64.ofNat L).toNat = L from by simp; omega]
    exact Cv.start H.out _ _
  case round =>
    obtain ⟨t, r, dk, rfl, ht, hg1, hsk, C1, HR⟩ := hrel
    by_cases ht3 : t < 3
    · have hle : (a : Int) + (L : Int) / 4 * 2 - 1 + (t : Int) ≤ (a : Int) + (L : Int) / 4 * 2 + 1 := by omega
      obtain ⟨R0, hRr⟩ : ∃ R0 : Nat, R0 = r.toNat := ⟨_, rfl⟩
      have lR : R0 < 18446744073709551616 := by rw [hRr]; exact r.toNat_lt
      obtain ⟨R', hR'⟩ : ∃ R' : Nat, R' = xorNextN R0 := ⟨_, rfl⟩
      have lR' : R' < 18446744073709551616 := by rw [hR']; exact xorNextN_lt R0 lR
      obtain ⟨O, hO⟩ : ∃ O : Nat, O = R' &&& (Md - 1) := ⟨_, rfl⟩
      have lO : O ≤ Md - 1 := by rw [hO]; exact Nat.and_le_right
      have eAnd : bits .and .u64 (R' : Int) ((Md : Int) - 1) = (O : Int) := by
        rw [show ((Md : Int) - 1) = ((Md - 1 : Nat) : Int) by omega, bits_and_u64_nat _ _ lR' (by omega), hO]
      have cR := C1.out.cell
      rw [← hRr] at cR
      have hNext := tnext_any w.heap.size R0 lR wr cR C1.out.frozen
      rw [← hR'] at hNext
      have HN : Aside (R' = (xorNext r).toNat ∧ O = (xorNext r).toNat &&& (Md - 1)) := by
        have e : R' = (xorNext r).toNat := by rw [hR', hRr, xorNext_toNat]
        exact ⟨e, by rw [hO, e]⟩
      have C2 := aside ((C1.out.set (.int .u64 (R' : Int))).drewN 3)
      have NX := aside hNext
      clear hRr hR' hO cR hNext lR
      generalize (wr.setCell ⟨w.heap.size, 0, none⟩ (.int .u64 (R' : Int))).drewN 3 = w2 at NX C2
      clear C1
      go_wp2_with fail
      refine NX.out.mono ?_
      rintro e wx ⟨rfl, hwx⟩
      obtain rfl : w2 = wx := hwx.symm
      clear NX
      by_cases hLO : L ≤ O
      · have hLOz : (L : Int) ≤ (O : Int) := by omega
        obtain ⟨X1, X1', Y1, Y1', -, -, a1, a1', b1, b1', p1, p1', q1, q1', ⟨u1, e1⟩, ⟨v1, e1'⟩, ⟨t1, e1''⟩, S1⟩ := exch C2.out.tn.self (a + L / 4 * 2 - 1 + t) (a + (O - L)) (by rw [hsk.out]; omega) (by rw [hsk.out]; omega)
        have CV := C2.out.row (S1 1).out (size_swp _ _ _) HB.out
        have CW := aside CV
        clear S1 CV
        have g1_0a : ((a : Int) + (L : Int) / 4 * 2 - 1 + (t : Int)).toNat = a + L / 4 * 2 - 1 + t := by omega
        have g1_0b : (0 : Int) ≤ (a : Int) + (L : Int) / 4 * 2 - 1 + (t : Int) := by omega
        have g1_0c : (a : Int) + (L : Int) / 4 * 2 - 1 + (t : Int) < (n : Int) := by omega
        have g1_0d : IntKind.i64.wrap ((a : Int) + (L : Int) / 4 * 2 - 1 + (t : Int)) = (a : Int) + (L : Int) / 4 * 2 - 1 + (t : Int) := by rw [IntKind.wrap_i64]; omega
        have g1_1a : ((a : Int) + ((O : Int) - (L : Int))).toNat = a + (O - L) := by omega
        have g1_1b : (0 : Int) ≤ (a : Int) + ((O : Int) - (L : Int)) := by omega
        have g1_1c : (a : Int) + ((O : Int) - (L : Int)) < (n : Int) := by omega
        have g1_1d : IntKind.i64.wrap ((a : Int) + ((O : Int) - (L : Int))) = (a : Int) + ((O : Int) - (L : Int)) := by rw [IntKind.wrap_i64]; omega
        go_wp2_with fail
        go_region
        clear e1 e1' e1'' a1 a1' b1 b1' p1 p1' q1 q1' g1_0a g1_0b g1_0c g1_0d g1_1a g1_1b g1_1c g1_1d
        have CV := CW.out
        go_wp2_with fail
        go_roundg (3 - (t + 1))
        case measure => omega
        case rel => exact ⟨t + 1, xorNext r, _, by congr 1; push_cast; omega, by omega, Nat.le_refl _, (size_swp _ _ _).trans hsk.out, by rw [← HN.out.1]; exact CV, by show _ = _; rw [← HR.out, bp_step a L Md _ t r dk (O - L) ht3 (by rw [← HN.out.2, if_pos (by omega)])]⟩
      · have hLOz : ¬ (L : Int) ≤ (O : Int) := by omega
        obtain ⟨X2, X2', Y2, Y2', -, -, a2, a2', b2, b2', p2, p2', q2, q2', ⟨u2, e2⟩, ⟨v2, e2'⟩, ⟨t2, e2''⟩, S2⟩ := exch C2.out.tn.self (a + L / 4 * 2 - 1 + t) (a + (O)) (by rw [hsk.out]; omega) (by rw [hsk.out]; omega)
        have CV := C2.out.row (S2 1).out (size_swp _ _ _) HB.out
        have CW := aside CV
        clear S2 CV
        have g2_0a : ((a : Int) + (L : Int) / 4 * 2 - 1 + (t : Int)).toNat = a + L / 4 * 2 - 1 + t := by omega
        have g2_0b : (0 : Int) ≤ (a : Int) + (L : Int) / 4 * 2 - 1 + (t : Int) := by omega
        have g2_0c : (a : Int) + (L : Int) / 4 * 2 - 1 + (t : Int) < (n : Int) := by omega
        have g2_0d : IntKind.i64.wrap ((a : Int) + (L : Int) / 4 * 2 - 1 + (t : Int)) = (a : Int) + (L : Int) / 4 * 2 - 1 + (t : Int) := by rw [IntKind.wrap_i64]; omega
        have g2_1a : ((a : Int) + ((O : Int))).toNat = a + (O) := by omega
        have g2_1b : (0 : Int) ≤ (a : Int) + ((O : Int)) := by omega
        have g2_1c : (a : Int) + ((O : Int)) < (n : Int) := by omega
        have g2_1d : IntKind.i64.wrap ((a : Int) + ((O : Int))) = (a : Int) + ((O : Int)) := by rw [IntKind.wrap_i64]; omega
        go_wp2_with fail
        go_region
        clear e2 e2' e2'' a2 a2' b2 b2' p2 p2' q2 q2' g2_0a g2_0b g2_0c g2_0d g2_1a g2_1b g2_1c g2_1d
        have CV := CW.out
        go_wp2_with fail
        go_roundg (3 - (t + 1))
        case measure => omega
        case rel => exact ⟨t + 1, xorNext r, _, by congr 1; push_cast; omega, by omega, Nat.le_refl _, (size_swp _ _ _).trans hsk.out, by rw [← HN.out.1]; exact CV, by show _ = _; rw [← HR.out, bp_step a L Md _ t r dk (O) ht3 (by rw [← HN.out.2, if_neg (by omega)])]⟩
    · obtain rfl : t = 3 := by omega
      have hle : ¬ ((a : Int) + (L : Int) / 4 * 2 - 1 + ((3 : Nat) : Int) ≤ (a : Int) + (L : Int) / 4 * 2 + 1) := by omega
      go_wp2_with fail
      go_end0
      refine ⟨rfl, ?_⟩
      rw [← HR.out]
      exact C1.out.tn
theorem breakPatterns_size_ (d : Array (Int × Int)) (a b : Nat) : (breakPatterns d a b).size = d.size := by
  unfold breakPatterns
  dsimp only
  split
  · simp only [breakStep, size_swp]
  · rfl
theorem tbreakPatterns_any (d : Array (Int × Int)) (w : World) (h : Tn blk d w w) (hs : d.size = n) (hn : n ≤ 4096) (a b : Nat) (hab : a ≤ b) (hb : b ≤ n) :
    Calls Try.prog 107 #[.slice (some ⟨blk, 0, none⟩) n c1, .int .i64 a, .int .i64 b, .func (.func 82) #[] #[]] w fun e w' => e = .returned (.tuple #[]) ∧ Tn blk (breakPatterns d a b) w w' := by
  obtain ⟨L, rfl⟩ : ∃ L, b = a + L := ⟨b - a, by omega⟩
  by_cases h8 : 8 ≤ L
  · exact tbreakPatterns_go d w h hs hn a L hb h8
  · have hv : breakPatterns d a (a + L) = d := by unfold breakPatterns; simp only [Nat.add_sub_cancel_left]; rw [if_neg h8]
    rw [hv]
    have hLz : ((a : Int) + (L : Int) - (a : Int)) = (L : Int) := by omega
    have h8z : ¬ (8 : Int) ≤ (L : Int) := by omega
    
    have H := aside h
    clear h  hv
    go_enter Try.func107, Try.ntmps107
    go_wp2_with fail
    go_end0
    exact ⟨rfl, H.out⟩
theorem tbreakPatterns_at {w0 w : World} {d : Array (Int × Int)} (h : Tn blk d w0 w) (hs : d.size = n) (hn : n ≤ 4096) (a b : Nat) (hab : a ≤ b) (hb : b ≤ n) {A B : Int} (eA : A = a) (eB : B = b) :
    Calls Try.prog 107 #[.slice (some ⟨blk, 0, none⟩) n c1, .int .i64 A, .int .i64 B, .func (.func 82) #[] #[]] w (TPost blk (breakPatterns d a b) w0 w (.tuple #[])) := by
  subst eA eB
  exact tpost (tbreakPatterns_any d w h.self hs hn a b hab hb) h (breakPatterns_size_ _ _ _)
end
end Go.Proofs.Ytaifmeajfldckaa
