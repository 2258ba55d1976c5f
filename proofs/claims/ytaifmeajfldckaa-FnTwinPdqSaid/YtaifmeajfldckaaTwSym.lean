/- slices' symMergeCmpFunc of items by keys does what the plain symMerge does. Conditions: a < m < b <= n. -/
import Derived.Test.YtaifmeajfldckaaTwRot
import Derived.Test.YtaifmeajfldckaaSym
namespace Go.Proofs.Ytaifmeajfldckaa
open Go.RowKit Go.Sort Go.Proofs

section
variable {blk n c1 : Nat}

set_option maxHeartbeats 16000000 in
set_option maxRecDepth 100000 in
theorem tsym_any (hn : n ≤ 4096) (f : Nat) : ∀ (d : Array (Int × Int)) (w : World), Tn blk d w w → d.size = n → ∀ (a m b : Nat), b - a ≤ f → a < m → m < b → b ≤ n →
    Calls Try.prog 89 #[.slice (some ⟨blk, 0, none⟩) n c1, .int .i64 a, .int .i64 m, .int .i64 b, .func (.func 82) #[] #[]] w fun e w' => e = .returned (.tuple #[]) ∧ Tn blk (Pl.symMerge ltK f d a m b) w w' := by
  induction f with
  | zero => intro d w h hs a m b hf ham hmb; omega
  | succ f ih =>
  intro d w h hs a m b hf ham hmb hb
  have ek := byKey_enters
  have H := aside h
  have HS := aside hs
  have IH := aside ih
  clear h hs ih
  by_cases h1 : m - a = 1
  · obtain ⟨r, hr⟩ : ∃ r, Pl.symMerge ltK (f + 1) d a m b = r := ⟨_, rfl⟩
    rw [hr]
    rw [Pl.symMerge, if_pos h1] at hr
    have HR := aside hr
    clear hr
    have h1' : (m : Int) - (a : Int) = 1 := by omega
    have HT0 : Aside (Tn blk d w w) := H
    go_enter Try.func89, Try.ntmps89
    go_wp2_with fail
    go_loopw [10, 11] (fun vi vj wr => ∃ i j : Nat, vi = .int .i64 i ∧ vj = .int .i64 j ∧ m ≤ i ∧ i ≤ j ∧ j ≤ b ∧ Aside (Tn blk d w wr) ∧ Aside (Pl.bs (fun h => ltK d[h]! d[a]!) i j = Pl.bs (fun h => ltK d[h]! d[a]!) m b)) (fun vi vj _ => (intOf vj).toNat - (intOf vi).toNat)
    case atStart => exact ⟨m, b, by first | rfl | go_num, by first | rfl | go_num, by omega, by omega, by omega, HT0, rfl⟩
    case round =>
      obtain ⟨i, j, rfl, rfl, hmi, hij, hjb, hT, hB⟩ := hrel
      by_cases hlt : i < j
      · cases hlv : ltK d[(i + j) / 2]! d[a]! with
        | true =>
          have HL : Aside ((fun h => ltK d[h]! d[a]!) ((i + j) / 2) = true) := by show _ = true; simp only [hlv]; try rfl
          have HV := aside hlv
          clear hlv
          obtain ⟨x3, x3', y3, y3', ca3, cb3, cc3, cd3, hc3⟩ := cmpT hT.out HS.out ((i + j) / 2) (a) (by omega) (by omega) HV.out
          have g3_0a : (((i : Int) + (j : Int)) / 2).toNat = (i + j) / 2 := by omega
          have g3_0b : (0 : Int) ≤ ((i : Int) + (j : Int)) / 2 := by omega
          have g3_0c : ((i : Int) + (j : Int)) / 2 < (n : Int) := by omega
          have g3_0d : IntKind.i64.wrap (((i : Int) + (j : Int)) / 2) = ((i : Int) + (j : Int)) / 2 := by rw [IntKind.wrap_i64]; omega
          have g3_1a : ((a : Int)).toNat = a := by omega
          have g3_1b : (0 : Int) ≤ (a : Int) := by omega
          have g3_1c : (a : Int) < (n : Int) := by omega
          have g3_1d : IntKind.i64.wrap ((a : Int)) = (a : Int) := by rw [IntKind.wrap_i64]; omega
          go_wp2_with fail
          go_still_tail 9, (by kernel_rfl)
          change wpList _ _ _ _ _ wr.drew
          have TD3 := hT.out.drewN 1
          change Tn _ _ _ wr.drew at TD3
          generalize wr.drew = wd3 at TD3 ⊢
          clear ca3 cb3 cc3 cd3 g3_0a g3_0b g3_0c g3_0d g3_1a g3_1b g3_1c g3_1d
          go_wp2_with fail
          refine (hc3.out wd3).mono ?_
          rintro e _ ⟨z3, rfl, hz3, o3, o3', rfl⟩
          have T1 := aside ((TD3.alloc o3).alloc o3')
          generalize (wd3.alloc o3).alloc o3' = w1 at T1 ⊢
          clear TD3 hc3 o3 o3'
          have hd3 : decide (z3 < 0) = true := decide_eq_true (by omega)
          go_wp2_with fail
          go_roundw
          case rel => exact ⟨(i + j) / 2 + 1, j, by congr 1, rfl, by omega, by omega, hjb, T1, (bs_go hlt HL.out).trans hB.out⟩
          case measure => simp [intOf]; omega
        | false =>
          have HL : Aside ((fun h => ltK d[h]! d[a]!) ((i + j) / 2) = false) := by show _ = false; simp only [hlv]; try rfl
          have HV := aside hlv
          clear hlv
          obtain ⟨x4, x4', y4, y4', ca4, cb4, cc4, cd4, hc4⟩ := cmpF hT.out HS.out ((i + j) / 2) (a) (by omega) (by omega) HV.out
          have g4_0a : (((i : Int) + (j : Int)) / 2).toNat = (i + j) / 2 := by omega
          have g4_0b : (0 : Int) ≤ ((i : Int) + (j : Int)) / 2 := by omega
          have g4_0c : ((i : Int) + (j : Int)) / 2 < (n : Int) := by omega
          have g4_0d : IntKind.i64.wrap (((i : Int) + (j : Int)) / 2) = ((i : Int) + (j : Int)) / 2 := by rw [IntKind.wrap_i64]; omega
          have g4_1a : ((a : Int)).toNat = a := by omega
          have g4_1b : (0 : Int) ≤ (a : Int) := by omega
          have g4_1c : (a : Int) < (n : Int) := by omega
          have g4_1d : IntKind.i64.wrap ((a : Int)) = (a : Int) := by rw [IntKind.wrap_i64]; omega
          go_wp2_with fail
          go_still_tail 9, (by kernel_rfl)
          change wpList _ _ _ _ _ wr.drew
          have TD4 := hT.out.drewN 1
          change Tn _ _ _ wr.drew at TD4
          generalize wr.drew = wd4 at TD4 ⊢
          clear ca4 cb4 cc4 cd4 g4_0a g4_0b g4_0c g4_0d g4_1a g4_1b g4_1c g4_1d
          go_wp2_with fail
          refine (hc4.out wd4).mono ?_
          rintro e _ ⟨z4, rfl, hz4, o4, o4', rfl⟩
          have T1 := aside ((TD4.alloc o4).alloc o4')
          generalize (wd4.alloc o4).alloc o4' = w1 at T1 ⊢
          clear TD4 hc4 o4 o4'
          have hd4 : decide (z4 < 0) = false := decide_eq_false (by omega)
          go_wp2_with fail
          go_roundw
          case rel => exact ⟨i, (i + j) / 2, rfl, by congr 1, hmi, by omega, by omega, T1, (bs_no hlt HL.out).trans hB.out⟩
          case measure => simp [intOf]; omega
      · obtain rfl : i = j := by omega
        clear hlt hij
        have hE : Aside (i = Pl.bs (fun h => ltK d[h]! d[a]!) m b) := by show _ = _; rw [← hB.out, bs_end]
        go_wp2_with fail
        go_loopw [13] (fun vk wr => ∃ (k : Nat) (dk : Array (Int × Int)), vk = .int .i64 k ∧ a ≤ k ∧ k ≤ b ∧ Aside (dk.size = n) ∧ Aside (Tn blk dk w wr) ∧ Aside (Pl.moveUp i k dk = Pl.moveUp i a d)) (fun vk _ => i - (intOf vk).toNat)
        case atStart => exact ⟨a, d, rfl, Nat.le_refl _, by omega, HS, hT, rfl⟩
        case round =>
          obtain ⟨k, dk, rfl, hak, hkb, hsk, hTk, hO⟩ := hrel
          by_cases hk : k + 1 < i
          · have hk' : (k : Int) < (i : Int) - 1 := by omega
            obtain ⟨X1, X1', Y1, Y1', -, -, a1, a1', b1, b1', p1, p1', q1, q1', ⟨u1, e1⟩, ⟨v1, e1'⟩, ⟨t1, e1''⟩, S1⟩ := exch hTk.out (k) (k + 1) (by rw [hsk.out]; omega) (by rw [hsk.out]; omega)
            have T1 := aside (S1 1)
            clear S1
            have g1_0a : ((k : Int)).toNat = k := by omega
            have g1_0b : (0 : Int) ≤ (k : Int) := by omega
            have g1_0c : (k : Int) < (n : Int) := by omega
            have g1_0d : IntKind.i64.wrap ((k : Int)) = (k : Int) := by rw [IntKind.wrap_i64]; omega
            have g1_1a : ((k : Int) + 1).toNat = k + 1 := by omega
            have g1_1b : (0 : Int) ≤ (k : Int) + 1 := by omega
            have g1_1c : (k : Int) + 1 < (n : Int) := by omega
            have g1_1d : IntKind.i64.wrap ((k : Int) + 1) = (k : Int) + 1 := by rw [IntKind.wrap_i64]; omega
            go_wp2_with fail
            go_region
            clear e1 e1' e1'' a1 a1' b1 b1' p1 p1' q1 q1' g1_0a g1_0b g1_0c g1_0d g1_1a g1_1b g1_1c g1_1d
            go_wp2_with fail
            go_roundw
            case rel => exact ⟨k + 1, _, by go_num, by omega, by omega, (size_swp _ _ _).trans hsk.out, T1, (moveUp_go hk).trans hO.out⟩
            case measure => simp [intOf]; omega
          · have hk' : ¬ (k : Int) < (i : Int) - 1 := by omega
            go_wp2_with fail
            go_returns
            exact ⟨rfl, by rw [← HR.out, ← hE.out, ← hO.out, moveUp_end hk]; exact hTk.out⟩
  · by_cases h2 : b - m = 1
    · obtain ⟨r, hr⟩ : ∃ r, Pl.symMerge ltK (f + 1) d a m b = r := ⟨_, rfl⟩
      rw [hr]
      rw [Pl.symMerge, if_neg h1, if_pos h2] at hr
      have HR := aside hr
      clear hr
      have h1' : ((m : Int) - (a : Int) == 1) = false := by simp; omega
      have h2' : (b : Int) - (m : Int) = 1 := by omega
      have HT0 : Aside (Tn blk d w w) := H
      go_enter Try.func89, Try.ntmps89
      go_wp2_with fail
      go_loopw [14, 15] (fun vi vj wr => ∃ i j : Nat, vi = .int .i64 i ∧ vj = .int .i64 j ∧ a ≤ i ∧ i ≤ j ∧ j ≤ m ∧ Aside (Tn blk d w wr) ∧ Aside (Pl.bs (fun h => !ltK d[m]! d[h]!) i j = Pl.bs (fun h => !ltK d[m]! d[h]!) a m)) (fun vi vj _ => (intOf vj).toNat - (intOf vi).toNat)
      case atStart => exact ⟨a, m, by first | rfl | go_num, by first | rfl | go_num, by omega, by omega, by omega, HT0, rfl⟩
      case round =>
        obtain ⟨i, j, rfl, rfl, hmi, hij, hjb, hT, hB⟩ := hrel
        by_cases hlt : i < j
        · cases hlv : ltK d[m]! d[(i + j) / 2]! with
          | false =>
            have HL : Aside ((fun h => !ltK d[m]! d[h]!) ((i + j) / 2) = true) := by show _ = true; simp only [hlv]; try rfl
            have HV := aside hlv
            clear hlv
            obtain ⟨x5, x5', y5, y5', ca5, cb5, cc5, cd5, hc5⟩ := cmpF hT.out HS.out (m) ((i + j) / 2) (by omega) (by omega) HV.out
            have g5_0a : ((m : Int)).toNat = m := by omega
            have g5_0b : (0 : Int) ≤ (m : Int) := by omega
            have g5_0c : (m : Int) < (n : Int) := by omega
            have g5_0d : IntKind.i64.wrap ((m : Int)) = (m : Int) := by rw [IntKind.wrap_i64]; omega
            have g5_1a : (((i : Int) + (j : Int)) / 2).toNat = (i + j) / 2 := by omega
            have g5_1b : (0 : Int) ≤ ((i : Int) + (j : Int)) / 2 := by omega
            have g5_1c : ((i : Int) + (j : Int)) / 2 < (n : Int) := by omega
            have g5_1d : IntKind.i64.wrap (((i : Int) + (j : Int)) / 2) = ((i : Int) + (j : Int)) / 2 := by rw [IntKind.wrap_i64]; omega
            go_wp2_with fail
            go_still_tail 9, (by kernel_rfl)
            change wpList _ _ _ _ _ wr.drew
            have TD5 := hT.out.drewN 1
            change Tn _ _ _ wr.drew at TD5
            generalize wr.drew = wd5 at TD5 ⊢
            clear ca5 cb5 cc5 cd5 g5_0a g5_0b g5_0c g5_0d g5_1a g5_1b g5_1c g5_1d
            go_wp2_with fail
            refine (hc5.out wd5).mono ?_
            rintro e _ ⟨z5, rfl, hz5, o5, o5', rfl⟩
            have T1 := aside ((TD5.alloc o5).alloc o5')
            generalize (wd5.alloc o5).alloc o5' = w1 at T1 ⊢
            clear TD5 hc5 o5 o5'
            have hd5 : decide (z5 < 0) = false := decide_eq_false (by omega)
            go_wp2_with fail
            go_roundw
            case rel => exact ⟨(i + j) / 2 + 1, j, by congr 1, rfl, by omega, by omega, hjb, T1, (bs_go hlt HL.out).trans hB.out⟩
            case measure => simp [intOf]; omega
          | true =>
            have HL : Aside ((fun h => !ltK d[m]! d[h]!) ((i + j) / 2) = false) := by show _ = false; simp only [hlv]; try rfl
            have HV := aside hlv
            clear hlv
            obtain ⟨x6, x6', y6, y6', ca6, cb6, cc6, cd6, hc6⟩ := cmpT hT.out HS.out (m) ((i + j) / 2) (by omega) (by omega) HV.out
            have g6_0a : ((m : Int)).toNat = m := by omega
            have g6_0b : (0 : Int) ≤ (m : Int) := by omega
            have g6_0c : (m : Int) < (n : Int) := by omega
            have g6_0d : IntKind.i64.wrap ((m : Int)) = (m : Int) := by rw [IntKind.wrap_i64]; omega
            have g6_1a : (((i : Int) + (j : Int)) / 2).toNat = (i + j) / 2 := by omega
            have g6_1b : (0 : Int) ≤ ((i : Int) + (j : Int)) / 2 := by omega
            have g6_1c : ((i : Int) + (j : Int)) / 2 < (n : Int) := by omega
            have g6_1d : IntKind.i64.wrap (((i : Int) + (j : Int)) / 2) = ((i : Int) + (j : Int)) / 2 := by rw [IntKind.wrap_i64]; omega
            go_wp2_with fail
            go_still_tail 9, (by kernel_rfl)
            change wpList _ _ _ _ _ wr.drew
            have TD6 := hT.out.drewN 1
            change Tn _ _ _ wr.drew at TD6
            generalize wr.drew = wd6 at TD6 ⊢
            clear ca6 cb6 cc6 cd6 g6_0a g6_0b g6_0c g6_0d g6_1a g6_1b g6_1c g6_1d
            go_wp2_with fail
            refine (hc6.out wd6).mono ?_
            rintro e _ ⟨z6, rfl, hz6, o6, o6', rfl⟩
            have T1 := aside ((TD6.alloc o6).alloc o6')
            generalize (wd6.alloc o6).alloc o6' = w1 at T1 ⊢
            clear TD6 hc6 o6 o6'
            have hd6 : decide (z6 < 0) = true := decide_eq_true (by omega)
            go_wp2_with fail
            go_roundw
            case rel => exact ⟨i, (i + j) / 2, rfl, by congr 1, hmi, by omega, by omega, T1, (bs_no hlt HL.out).trans hB.out⟩
            case measure => simp [intOf]; omega
        · obtain rfl : i = j := by omega
          clear hlt hij
          have hE : Aside (i = Pl.bs (fun h => !ltK d[m]! d[h]!) a m) := by show _ = _; rw [← hB.out, bs_end]
          go_wp2_with fail
          go_loopw [17] (fun vk wr => ∃ (k : Nat) (dk : Array (Int × Int)), vk = .int .i64 k ∧ i ≤ k ∧ k ≤ m ∧ Aside (dk.size = n) ∧ Aside (Tn blk dk w wr) ∧ Aside (Pl.moveDown i k dk = Pl.moveDown i m d)) (fun vk _ => (intOf vk).toNat)
          case atStart => exact ⟨m, d, rfl, by omega, Nat.le_refl _, HS, hT, rfl⟩
          case round =>
            obtain ⟨k, dk, rfl, hak, hkb, hsk, hTk, hO⟩ := hrel
            by_cases hk : k > i
            · obtain ⟨x, rfl⟩ : ∃ x, k = x + 1 := ⟨k - 1, by omega⟩
              have g6 : (x : Int) + 1 - 1 = (x : Int) := by omega
              obtain ⟨X2, X2', Y2, Y2', -, -, a2, a2', b2, b2', p2, p2', q2, q2', ⟨u2, e2⟩, ⟨v2, e2'⟩, ⟨t2, e2''⟩, S2⟩ := exch hTk.out (x + 1) (x) (by rw [hsk.out]; omega) (by rw [hsk.out]; omega)
              have T1 := aside (S2 1)
              clear S2
              have g2_0a : ((x : Int) + 1).toNat = x + 1 := by omega
              have g2_0b : (0 : Int) ≤ (x : Int) + 1 := by omega
              have g2_0c : (x : Int) + 1 < (n : Int) := by omega
              have g2_0d : IntKind.i64.wrap ((x : Int) + 1) = (x : Int) + 1 := by rw [IntKind.wrap_i64]; omega
              have g2_1a : ((x : Int)).toNat = x := by omega
              have g2_1b : (0 : Int) ≤ (x : Int) := by omega
              have g2_1c : (x : Int) < (n : Int) := by omega
              have g2_1d : IntKind.i64.wrap ((x : Int)) = (x : Int) := by rw [IntKind.wrap_i64]; omega
              go_wp2_with fail
              go_region
              clear e2 e2' e2'' a2 a2' b2 b2' p2 p2' q2 q2' g2_0a g2_0b g2_0c g2_0d g2_1a g2_1b g2_1c g2_1d
              go_wp2_with fail
              go_roundw
              case rel => exact ⟨x, _, by first | rfl | (congr 1; done) | (congr 1; omega), by omega, by omega, (size_swp _ _ _).trans hsk.out, T1, (moveDown_go hk).trans hO.out⟩
              case measure => simp [intOf]
            · go_wp2_with fail
              go_returns
              exact ⟨rfl, by rw [← HR.out, ← hE.out, ← hO.out, moveDown_end hk]; exact hTk.out⟩
    · obtain ⟨r, hr⟩ : ∃ r, Pl.symMerge ltK (f + 1) d a m b = r := ⟨_, rfl⟩
      rw [hr]
      rw [Pl.symMerge, if_neg h1, if_neg h2] at hr
      have HR := aside hr
      clear hr
      have h1' : ((m : Int) - (a : Int) == 1) = false := by simp; omega
      have h2' : ((b : Int) - (m : Int) == 1) = false := by simp; omega
      have HT0 : Aside (Tn blk d w w) := H
      go_enter Try.func89, Try.ntmps89
      go_upto_if 140 with (fail)
      go_cut [20, 21] from 138 to 146 (fun vs vr wx => ∃ i0 j0 : Nat, vs = .int .i64 i0 ∧ vr = .int .i64 j0 ∧ a ≤ i0 ∧ (a + b) / 2 + m ≤ b + i0 ∧ i0 ≤ j0 ∧ j0 ≤ m ∧ j0 ≤ (a + b) / 2 ∧ Aside (i0 = (if m > (a + b) / 2 then (a + b) / 2 + m - b else a)) ∧ Aside (j0 = (if m > (a + b) / 2 then (a + b) / 2 else m)) ∧ wx = w)
      case first =>
        by_cases hm : m > (a + b) / 2
        · have hm' : (m : Int) > ((a : Int) + (b : Int)) / 2 := by omega
          go_wp2_with fail
          go_meet
          case rel => exact ⟨(a + b) / 2 + m - b, (a + b) / 2, by congr 1; omega, by congr 1, by omega, by omega, by omega, by omega, by omega, (if_pos hm).symm, (if_pos hm).symm, by first | rfl | trivial⟩
        · have hm' : ¬ (m : Int) > ((a : Int) + (b : Int)) / 2 := by omega
          go_wp2_with fail
          go_meet
          case rel => exact ⟨a, m, rfl, rfl, by omega, by omega, by omega, by omega, by omega, (if_neg hm).symm, (if_neg hm).symm, by first | rfl | trivial⟩
      case rest =>
        obtain ⟨i0, j0, rfl, rfl, ha0, hn0, hij0, hjm0, hjq0, hi0, hj0, hwc⟩ := hcut
        obtain rfl : w = wc := hwc.symm
        go_wp2_with fail
        go_loopw [20, 21] (fun vi vj wr => ∃ i j : Nat, vi = .int .i64 i ∧ vj = .int .i64 j ∧ i0 ≤ i ∧ i ≤ j ∧ j ≤ j0 ∧ Aside (Tn blk d w wr) ∧ Aside (Pl.bs (fun c => !ltK d[(a + b) / 2 + m - 1 - c]! d[c]!) i j = Pl.bs (fun c => !ltK d[(a + b) / 2 + m - 1 - c]! d[c]!) i0 j0)) (fun vi vj _ => (intOf vj).toNat - (intOf vi).toNat)
        case atStart => exact ⟨i0, j0, by first | rfl | go_num, by first | rfl | go_num, by omega, by omega, by omega, HT0, rfl⟩
        case round =>
          obtain ⟨i, j, rfl, rfl, hmi, hij, hjb, hT, hB⟩ := hrel
          by_cases hlt : i < j
          · cases hlv : ltK d[(a + b) / 2 + m - 1 - (i + j) / 2]! d[(i + j) / 2]! with
            | false =>
              have HL : Aside ((fun c => !ltK d[(a + b) / 2 + m - 1 - c]! d[c]!) ((i + j) / 2) = true) := by show _ = true; simp only [hlv]; try rfl
              have HV := aside hlv
              clear hlv
              obtain ⟨x7, x7', y7, y7', ca7, cb7, cc7, cd7, hc7⟩ := cmpF hT.out HS.out ((a + b) / 2 + m - 1 - (i + j) / 2) ((i + j) / 2) (by omega) (by omega) HV.out
              have g7_0a : (((a : Int) + (b : Int)) / 2 + (m : Int) - 1 - (((i : Int) + (j : Int)) / 2)).toNat = (a + b) / 2 + m - 1 - (i + j) / 2 := by omega
              have g7_0b : (0 : Int) ≤ ((a : Int) + (b : Int)) / 2 + (m : Int) - 1 - (((i : Int) + (j : Int)) / 2) := by omega
              have g7_0c : ((a : Int) + (b : Int)) / 2 + (m : Int) - 1 - (((i : Int) + (j : Int)) / 2) < (n : Int) := by omega
              have g7_0d : IntKind.i64.wrap (((a : Int) + (b : Int)) / 2 + (m : Int) - 1 - (((i : Int) + (j : Int)) / 2)) = ((a : Int) + (b : Int)) / 2 + (m : Int) - 1 - (((i : Int) + (j : Int)) / 2) := by rw [IntKind.wrap_i64]; omega
              have g7_1a : (((i : Int) + (j : Int)) / 2).toNat = (i + j) / 2 := by omega
              have g7_1b : (0 : Int) ≤ ((i : Int) + (j : Int)) / 2 := by omega
              have g7_1c : ((i : Int) + (j : Int)) / 2 < (n : Int) := by omega
              have g7_1d : IntKind.i64.wrap (((i : Int) + (j : Int)) / 2) = ((i : Int) + (j : Int)) / 2 := by rw [IntKind.wrap_i64]; omega
              have g8 : ((i : Int) + (j : Int)) / 2 ≤ ((a : Int) + (b : Int)) / 2 + (m : Int) - 1 := by omega
              have g9 : ((i : Int) + (j : Int)) / 2 < ((a : Int) + (b : Int)) / 2 + (m : Int) := by omega
              go_wp2_with fail
              go_still_tail 11, (by kernel_rfl)
              change wpList _ _ _ _ _ wr.drew
              have TD7 := hT.out.drewN 1
              change Tn _ _ _ wr.drew at TD7
              generalize wr.drew = wd7 at TD7 ⊢
              clear ca7 cb7 cc7 cd7 g7_0a g7_0b g7_0c g7_0d g7_1a g7_1b g7_1c g7_1d
              go_wp2_with fail
              refine (hc7.out wd7).mono ?_
              rintro e _ ⟨z7, rfl, hz7, o7, o7', rfl⟩
              have T1 := aside ((TD7.alloc o7).alloc o7')
              generalize (wd7.alloc o7).alloc o7' = w1 at T1 ⊢
              clear TD7 hc7 o7 o7'
              have hd7 : decide (z7 < 0) = false := decide_eq_false (by omega)
              go_wp2_with fail
              go_roundw
              case rel => exact ⟨(i + j) / 2 + 1, j, by congr 1, rfl, by omega, by omega, hjb, T1, (bs_go hlt HL.out).trans hB.out⟩
              case measure => simp [intOf]; omega
            | true =>
              have HL : Aside ((fun c => !ltK d[(a + b) / 2 + m - 1 - c]! d[c]!) ((i + j) / 2) = false) := by show _ = false; simp only [hlv]; try rfl
              have HV := aside hlv
              clear hlv
              obtain ⟨x8, x8', y8, y8', ca8, cb8, cc8, cd8, hc8⟩ := cmpT hT.out HS.out ((a + b) / 2 + m - 1 - (i + j) / 2) ((i + j) / 2) (by omega) (by omega) HV.out
              have g8_0a : (((a : Int) + (b : Int)) / 2 + (m : Int) - 1 - (((i : Int) + (j : Int)) / 2)).toNat = (a + b) / 2 + m - 1 - (i + j) / 2 := by omega
              have g8_0b : (0 : Int) ≤ ((a : Int) + (b : Int)) / 2 + (m : Int) - 1 - (((i : Int) + (j : Int)) / 2) := by omega
              have g8_0c : ((a : Int) + (b : Int)) / 2 + (m : Int) - 1 - (((i : Int) + (j : Int)) / 2) < (n : Int) := by omega
              have g8_0d : IntKind.i64.wrap (((a : Int) + (b : Int)) / 2 + (m : Int) - 1 - (((i : Int) + (j : Int)) / 2)) = ((a : Int) + (b : Int)) / 2 + (m : Int) - 1 - (((i : Int) + (j : Int)) / 2) := by rw [IntKind.wrap_i64]; omega
              have g8_1a : (((i : Int) + (j : Int)) / 2).toNat = (i + j) / 2 := by omega
              have g8_1b : (0 : Int) ≤ ((i : Int) + (j : Int)) / 2 := by omega
              have g8_1c : ((i : Int) + (j : Int)) / 2 < (n : Int) := by omega
              have g8_1d : IntKind.i64.wrap (((i : Int) + (j : Int)) / 2) = ((i : Int) + (j : Int)) / 2 := by rw [IntKind.wrap_i64]; omega
              have g8 : ((i : Int) + (j : Int)) / 2 ≤ ((a : Int) + (b : Int)) / 2 + (m : Int) - 1 := by omega
              have g9 : ((i : Int) + (j : Int)) / 2 < ((a : Int) + (b : Int)) / 2 + (m : Int) := by omega
              go_wp2_with fail
              go_still_tail 11, (by kernel_rfl)
              change wpList _ _ _ _ _ wr.drew
              have TD8 := hT.out.drewN 1
              change Tn _ _ _ wr.drew at TD8
              generalize wr.drew = wd8 at TD8 ⊢
              clear ca8 cb8 cc8 cd8 g8_0a g8_0b g8_0c g8_0d g8_1a g8_1b g8_1c g8_1d
              go_wp2_with fail
              refine (hc8.out wd8).mono ?_
              rintro e _ ⟨z8, rfl, hz8, o8, o8', rfl⟩
              have T1 := aside ((TD8.alloc o8).alloc o8')
              generalize (wd8.alloc o8).alloc o8' = w1 at T1 ⊢
              clear TD8 hc8 o8 o8'
              have hd8 : decide (z8 < 0) = true := decide_eq_true (by omega)
              go_wp2_with fail
              go_roundw
              case rel => exact ⟨i, (i + j) / 2, rfl, by congr 1, hmi, by omega, by omega, T1, (bs_no hlt HL.out).trans hB.out⟩
              case measure => simp [intOf]; omega
          · obtain rfl : i = j := by omega
            clear hlt hij
            have hE : Aside (i = Pl.bs (fun c => !ltK d[(a + b) / 2 + m - 1 - c]! d[c]!) i0 j0) := by show _ = _; rw [← hB.out, bs_end]
            have hs0 : Aside (i = Pl.startOf ltK d a m b) := by show _ = _; unfold Pl.startOf; rw [← hi0.out, ← hj0.out]; exact hE.out
            obtain ⟨e, he⟩ : ∃ e, (a + b) / 2 + m - i = e := ⟨_, rfl⟩
            have he' : ((a : Int) + (b : Int)) / 2 + (m : Int) - (i : Int) = (e : Int) := by omega
            have heb : e ≤ b := by omega
            go_upto_region 39 with (fail)
            go_cut [185] from 178 to 184 (fun v wx => v = .bool (decide (i < m ∧ m < e)) ∧ Aside (Tn blk (d) w wx))
            case first =>
              by_cases q1 : i < m
              · have q1' : (i : Int) < (m : Int) := by omega
                by_cases q2 : m < e
                · have q2' : (m : Int) < (e : Int) := by omega
                  go_wp2_with fail
                  go_meet
                  case rel => exact ⟨by rw [decide_eq_true (And.intro q1 q2)], hT⟩
                · have q2' : ¬ (m : Int) < (e : Int) := by omega
                  go_wp2_with fail
                  go_meet
                  case rel => exact ⟨by rw [decide_eq_false (fun h => q2 h.2)], hT⟩
              · have q1' : ¬ (i : Int) < (m : Int) := by omega
                go_wp2_with fail
                go_meet
                case rel => exact ⟨by rw [decide_eq_false (fun h => q1 h.1)], hT⟩
            case rest =>
              obtain ⟨rfl, hX⟩ := hcut
              clear hT
              go_upto_if 185 with (fail)
              go_cut [185, 186] from 187 to 191 (fun _ _ wx => Aside (Tn blk (Pl.afterRot d m i e) w wx))
              case first =>
                by_cases q : i < m ∧ m < e
                · have qd : decide (i < m ∧ m < e) = true := decide_eq_true q
                  go_wp2_with fail
                  refine (trotate_at hX.out HS.out hn i m e (by omega) (by omega) (by omega) (by omega) (by omega) (by omega)).mono ?_
                  rintro e1 w1 ⟨rfl, T1, -⟩
                  go_wp2_with fail
                  go_meet
                  case rel => (show Tn _ _ _ _; unfold Pl.afterRot; rw [if_pos q]; exact T1.out)
                · have qd : decide (i < m ∧ m < e) = false := decide_eq_false q
                  go_wp2_with fail
                  go_meet
                  case rel => (show Tn _ _ _ _; unfold Pl.afterRot; rw [if_neg q]; exact hX.out)
              case rest =>
                have hU := hcut
                go_upto_region 41 with (fail)
                go_cut [199] from 192 to 198 (fun v wx => v = .bool (decide (a < i ∧ i < (a + b) / 2)) ∧ Aside (Tn blk (Pl.afterRot d m i e) w wx))
                case first =>
                  by_cases q1 : a < i
                  · have q1' : (a : Int) < (i : Int) := by omega
                    by_cases q2 : i < (a + b) / 2
                    · have q2' : (i : Int) < ((a : Int) + (b : Int)) / 2 := by omega
                      go_wp2_with fail
                      go_meet
                      case rel => exact ⟨by rw [decide_eq_true (And.intro q1 q2)], hU⟩
                    · have q2' : ¬ (i : Int) < ((a : Int) + (b : Int)) / 2 := by omega
                      go_wp2_with fail
                      go_meet
                      case rel => exact ⟨by rw [decide_eq_false (fun h => q2 h.2)], hU⟩
                  · have q1' : ¬ (a : Int) < (i : Int) := by omega
                    go_wp2_with fail
                    go_meet
                    case rel => exact ⟨by rw [decide_eq_false (fun h => q1 h.1)], hU⟩
                case rest =>
                  obtain ⟨rfl, hX⟩ := hcut
                  clear hU
                  go_upto_if 199 with (fail)
                  go_cut [199, 200] from 201 to 205 (fun _ _ wx => Aside (Tn blk (if a < i ∧ i < (a + b) / 2 then Pl.symMerge ltK f (Pl.afterRot d m i e) a i ((a + b) / 2) else Pl.afterRot d m i e) w wx))
                  case first =>
                    by_cases q : a < i ∧ i < (a + b) / 2
                    · have qd : decide (a < i ∧ i < (a + b) / 2) = true := decide_eq_true q
                      go_wp2_with fail
                      have hD : (Pl.afterRot d m i e).size = n := (afterRot_sz _ _ _ _).trans HS.out
                      have IHc := aside (tpost (IH.out _ _ hX.out.self hD a i ((a + b) / 2) (by omega) q.1 q.2 (by omega)) hX.out (symMerge_size _ _ _ _ _ _))
                      refine IHc.out.mono ?_
                      rintro e1 w1 ⟨rfl, T1, -⟩
                      go_wp2_with fail
                      go_meet
                      case rel => (show Tn _ _ _ _; rw [if_pos q]; exact T1.out)
                    · have qd : decide (a < i ∧ i < (a + b) / 2) = false := decide_eq_false q
                      go_wp2_with fail
                      go_meet
                      case rel => (show Tn _ _ _ _; rw [if_neg q]; exact hX.out)
                  case rest =>
                    have hV := hcut
                    have hD2 : Aside ((if a < i ∧ i < (a + b) / 2 then Pl.symMerge ltK f (Pl.afterRot d m i e) a i ((a + b) / 2) else Pl.afterRot d m i e).size = n) := by
                      show _ = _
                      split
                      · rw [symMerge_size, afterRot_sz]; exact HS.out
                      · rw [afterRot_sz]; exact HS.out
                    have hR2 := HR.out
                    try dsimp only at hR2
                    rw [← hs0.out, he] at hR2
                    generalize (if a < i ∧ i < (a + b) / 2 then Pl.symMerge ltK f (Pl.afterRot d m i e) a i ((a + b) / 2) else Pl.afterRot d m i e) = D2 at hV hD2 hR2
                    clear HR
                    have HR := aside hR2
                    clear hR2
                    go_upto_region 43 with (fail)
                    go_cut [213] from 206 to 212 (fun v wx => v = .bool (decide ((a + b) / 2 < e ∧ e < b)) ∧ Aside (Tn blk (D2) w wx))
                    case first =>
                      by_cases q1 : (a + b) / 2 < e
                      · have q1' : ((a : Int) + (b : Int)) / 2 < (e : Int) := by omega
                        by_cases q2 : e < b
                        · have q2' : (e : Int) < (b : Int) := by omega
                          go_wp2_with fail
                          go_meet
                          case rel => exact ⟨by rw [decide_eq_true (And.intro q1 q2)], hV⟩
                        · have q2' : ¬ (e : Int) < (b : Int) := by omega
                          go_wp2_with fail
                          go_meet
                          case rel => exact ⟨by rw [decide_eq_false (fun h => q2 h.2)], hV⟩
                      · have q1' : ¬ ((a : Int) + (b : Int)) / 2 < (e : Int) := by omega
                        go_wp2_with fail
                        go_meet
                        case rel => exact ⟨by rw [decide_eq_false (fun h => q1 h.1)], hV⟩
                    case rest =>
                      obtain ⟨rfl, hX⟩ := hcut
                      clear hV
                      by_cases q : (a + b) / 2 < e ∧ e < b
                      · have qd : decide ((a + b) / 2 < e ∧ e < b) = true := decide_eq_true q
                        go_wp2_with fail
                        have IHc := aside (tpost (IH.out _ _ hX.out.self hD2.out ((a + b) / 2) e b (by omega) q.1 q.2 hb) hX.out (symMerge_size _ _ _ _ _ _))
                        refine IHc.out.mono ?_
                        rintro e1 w1 ⟨rfl, T1, -⟩
                        go_wp2_with fail
                        go_end0
                        exact ⟨rfl, by rw [← HR.out, if_pos q]; exact T1.out⟩
                      · have qd : decide ((a + b) / 2 < e ∧ e < b) = false := decide_eq_false q
                        go_wp2_with fail
                        go_end0
                        exact ⟨rfl, by rw [← HR.out, if_neg q]; exact hX.out⟩
theorem tsym_at {w0 w : World} {d : Array (Int × Int)} (h : Tn blk d w0 w) (hs : d.size = n) (hn : n ≤ 4096) (f a m b : Nat) (hf : b - a ≤ f) (ham : a < m) (hmb : m < b) (hb : b ≤ n) {A B K : Int} (eA : A = a) (eB : B = m) (eK : K = b) :
    Calls Try.prog 89 #[.slice (some ⟨blk, 0, none⟩) n c1, .int .i64 A, .int .i64 B, .int .i64 K, .func (.func 82) #[] #[]] w (TPost blk (Pl.symMerge ltK f d a m b) w0 w (.tuple #[])) := by
  subst eA eB eK
  exact tpost (tsym_any hn f d w h.self hs a m b hf ham hmb hb) h (symMerge_size _ _ _ _ _ _)
theorem tsym_box (v : Value) (blk n : Nat) (hX : Box blk n v) (d : Array (Int × Int)) (w : World) (h : Tn blk d w w) (hs : d.size = n) (hn : n ≤ 4096) (a m b : Nat) (ham : a < m) (hmb : m < b) (hb : b ≤ n) :
    Calls Try.prog 89 #[v, .int .i64 a, .int .i64 m, .int .i64 b, .func (.func 82) #[] #[]] w fun e w' => e = .returned (.tuple #[]) ∧ Aside (Tn blk (Pl.symMerge ltK (b - a) d a m b) w w') := by
  obtain ⟨c, rfl⟩ := box_some hX (by omega)
  exact tsym_any hn (b - a) d w h hs a m b (Nat.le_refl _) ham hmb hb
end
end Go.Proofs.Ytaifmeajfldckaa
