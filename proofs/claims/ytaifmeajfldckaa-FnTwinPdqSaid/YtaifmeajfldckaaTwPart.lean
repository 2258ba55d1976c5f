/- slices' partitionCmpFunc and partitionEqualCmpFunc of items by keys do what the plain ones do. Conditions: a <= pivot < b <= n. -/
import Derived.Test.YtaifmeajfldckaaCmp
import Derived.Test.YtaifmeajfldckaaPEq
namespace Go.Proofs.Ytaifmeajfldckaa
open Go.RowKit Go.Sort Go.Proofs

section
variable {blk n c1 : Nat}

set_option maxHeartbeats 16000000 in
set_option maxRecDepth 100000 in
theorem tpartition_any (d : Array (Int × Int)) (w : World) (h : Tn blk d w w) (hs : d.size = n) (hn : n ≤ 4096) (a b pivot : Nat) (hap : a ≤ pivot) (hpb : pivot < b) (hb : b ≤ n) :
    Calls Try.prog 112 #[.slice (some ⟨blk, 0, none⟩) n c1, .int .i64 a, .int .i64 b, .int .i64 pivot, .func (.func 82) #[] #[]] w fun e w' =>
      e = .returned (.tuple #[.int .i64 (partition ltK d a b pivot).1, .bool (partition ltK d a b pivot).2.1]) ∧ Tn blk (partition ltK d a b pivot).2.2 w w' := by
  have ek := byKey_enters
  have H := aside h
  have HS := aside hs
  clear h hs
  obtain ⟨r, hr⟩ : ∃ r, partition ltK d a b pivot = r := ⟨_, rfl⟩
  rw [hr]
  have HR : Aside _ := hr
  clear hr
  obtain ⟨d1, hd1⟩ : ∃ d1, swp d a pivot = d1 := ⟨_, rfl⟩
  have D1 : Aside (d1.size = n) := by rw [← hd1]; exact (size_swp _ _ _).trans HS.out
  have E1 : Aside _ := hd1
  clear hd1
  go_enter Try.func112, Try.ntmps112
  obtain ⟨X9, X9', Y9, Y9', -, -, a9, a9', b9, b9', p9, p9', q9, q9', ⟨u9, e9⟩, ⟨v9, e9'⟩, ⟨t9, e9''⟩, S9⟩ := exch H.out (a) (pivot) (by rw [HS.out]; omega) (by rw [HS.out]; omega)
  have T1 := aside (S9 1)
  clear S9
  have g9_0a : ((a : Int)).toNat = a := by omega
  have g9_0b : (0 : Int) ≤ (a : Int) := by omega
  have g9_0c : (a : Int) < (n : Int) := by omega
  have g9_0d : IntKind.i64.wrap ((a : Int)) = (a : Int) := by rw [IntKind.wrap_i64]; omega
  have g9_1a : ((pivot : Int)).toNat = pivot := by omega
  have g9_1b : (0 : Int) ≤ (pivot : Int) := by omega
  have g9_1c : (pivot : Int) < (n : Int) := by omega
  have g9_1d : IntKind.i64.wrap ((pivot : Int)) = (pivot : Int) := by rw [IntKind.wrap_i64]; omega
  go_wp2_with fail
  go_region
  clear e9 e9' e9'' a9 a9' b9 b9' p9 p9' q9 q9' g9_0a g9_0b g9_0c g9_0d g9_1a g9_1b g9_1c g9_1d
  rw [E1.out] at T1
  -- the first upward scan
  go_upto_block 0 with (fail)
  go_cut [12] from 14 (fun vi wc => ∃ i : Nat, vi = .int .i64 i ∧ a < i ∧ i ≤ b ∧ Aside (Tn blk d1 w wc) ∧ Aside (i = scanUp (fun x => ltK x d1[a]!) d1 (b - 1) (a + 1)) ∧ Aside (i ≤ b - 1 → ltK d1[i]! d1[a]! = false))
  case first =>
    go_wp2_with fail
    go_loopw [12] (fun vi wr => ∃ i : Nat, vi = .int .i64 i ∧ a < i ∧ i ≤ b ∧ Aside (Tn blk d1 w wr) ∧ Aside (scanUp (fun x => ltK x d1[a]!) d1 (b - 1) i = scanUp (fun x => ltK x d1[a]!) d1 (b - 1) (a + 1))) (fun vi _ => b - (intOf vi).toNat)
    case atStart => exact ⟨a + 1, by go_num, by omega, by omega, T1, rfl⟩
    case round =>
      obtain ⟨i, rfl, hai, hib, hT, hO⟩ := hrel
      by_cases hle : i ≤ b - 1
      · have hle' : (i : Int) ≤ (b : Int) - 1 := by omega
        cases hl : ltK d1[i]! d1[a]! with
        | true =>
          have HL : Aside _ := hl
          clear hl
          obtain ⟨x1, x1', y1, y1', ca1, cb1, cc1, cd1, hc1⟩ := cmpT hT.out D1.out (i) (a) (by omega) (by omega) HL.out
          have g1_0a : ((i : Int)).toNat = i := by omega
          have g1_0b : (0 : Int) ≤ (i : Int) := by omega
          have g1_0c : (i : Int) < (n : Int) := by omega
          have g1_0d : IntKind.i64.wrap ((i : Int)) = (i : Int) := by rw [IntKind.wrap_i64]; omega
          have g1_1a : ((a : Int)).toNat = a := by omega
          have g1_1b : (0 : Int) ≤ (a : Int) := by omega
          have g1_1c : (a : Int) < (n : Int) := by omega
          have g1_1d : IntKind.i64.wrap ((a : Int)) = (a : Int) := by rw [IntKind.wrap_i64]; omega
          go_wp2_with fail
          go_still_tail 13, (by kernel_rfl)
          change wpList _ _ _ _ _ wr.drew
          have TD1 := hT.out.drewN 1
          change Tn _ _ _ wr.drew at TD1
          generalize wr.drew = wd1 at TD1 ⊢
          clear ca1 cb1 cc1 cd1 g1_0a g1_0b g1_0c g1_0d g1_1a g1_1b g1_1c g1_1d
          go_wp2_with fail
          refine (hc1.out wd1).mono ?_
          rintro e _ ⟨z1, rfl, hz1, o1, o1', rfl⟩
          have T2 := aside ((TD1.alloc o1).alloc o1')
          generalize (wd1.alloc o1).alloc o1' = w2 at T2 ⊢
          clear TD1 hc1 o1 o1'
          have hd1 : decide (z1 < 0) = true := decide_eq_true (by omega)
          go_wp2_with fail
          go_roundw
          case rel => exact ⟨i + 1, by go_num, by omega, by omega, T2, by rw [← hO.out, Pl.up_go (fun x => ltK x d1[a]!) d1 (b - 1) i hle HL.out]; exact rfl⟩
          case measure => simp [intOf]; omega
        | false =>
          have HL : Aside _ := hl
          clear hl
          obtain ⟨x2, x2', y2, y2', ca2, cb2, cc2, cd2, hc2⟩ := cmpF hT.out D1.out (i) (a) (by omega) (by omega) HL.out
          have g2_0a : ((i : Int)).toNat = i := by omega
          have g2_0b : (0 : Int) ≤ (i : Int) := by omega
          have g2_0c : (i : Int) < (n : Int) := by omega
          have g2_0d : IntKind.i64.wrap ((i : Int)) = (i : Int) := by rw [IntKind.wrap_i64]; omega
          have g2_1a : ((a : Int)).toNat = a := by omega
          have g2_1b : (0 : Int) ≤ (a : Int) := by omega
          have g2_1c : (a : Int) < (n : Int) := by omega
          have g2_1d : IntKind.i64.wrap ((a : Int)) = (a : Int) := by rw [IntKind.wrap_i64]; omega
          go_wp2_with fail
          go_still_tail 13, (by kernel_rfl)
          change wpList _ _ _ _ _ wr.drew
          have TD2 := hT.out.drewN 1
          change Tn _ _ _ wr.drew at TD2
          generalize wr.drew = wd2 at TD2 ⊢
          clear ca2 cb2 cc2 cd2 g2_0a g2_0b g2_0c g2_0d g2_1a g2_1b g2_1c g2_1d
          go_wp2_with fail
          refine (hc2.out wd2).mono ?_
          rintro e _ ⟨z2, rfl, hz2, o2, o2', rfl⟩
          have T2 := aside ((TD2.alloc o2).alloc o2')
          generalize (wd2.alloc o2).alloc o2' = w2 at T2 ⊢
          clear TD2 hc2 o2 o2'
          have hd2 : decide (z2 < 0) = false := decide_eq_false (by omega)
          go_wp2_with fail
          go_meet
          case rel => exact ⟨i, rfl, hai, hib, T2, by rw [← hO.out, Pl.up_end (fun x => ltK x d1[a]!) d1 (b - 1) i (.inr HL.out)]; exact rfl, fun _ => HL.out⟩
      · have gz : ¬ (i : Int) ≤ (b : Int) - 1 := by omega
        have gd : decide ((i : Int) ≤ (b : Int) - 1) = false := decide_eq_false gz
        have gn : decide (i ≤ b - 1) = false := decide_eq_false hle
        go_wp2_with fail
        go_quiet (fail)
        have TQ := aside (hT.out.drewN nq)
        generalize wr.drewN nq = wq at TQ ⊢
        go_wp2_with fail
        go_meet
        case rel => exact ⟨i, rfl, hai, hib, TQ, by rw [← hO.out, Pl.up_end (fun x => ltK x d1[a]!) d1 (b - 1) i (.inl hle)]; exact rfl, fun h => absurd h hle⟩
  case rest =>
    obtain ⟨i, rfl, hai, hib, hTi, hIi, hFi⟩ := hcut
    clear T1
    -- the first downward scan
    go_upto_block 2 with (fail)
    go_cut [13] from 14 (fun vj wc => ∃ j : Nat, vj = .int .i64 j ∧ j < b ∧ i ≤ j + 1 ∧ Aside (Tn blk d1 w wc) ∧ Aside (j = scanDown (fun x => !ltK x d1[a]!) d1 i (b - 1)) ∧ Aside (i ≤ j → ltK d1[j]! d1[a]! = true))
    case first =>
      go_wp2_with fail
      go_loopw [13] (fun vj wr => ∃ j : Nat, vj = .int .i64 j ∧ j < b ∧ i ≤ j + 1 ∧ Aside (Tn blk d1 w wr) ∧ Aside (scanDown (fun x => !ltK x d1[a]!) d1 i j = scanDown (fun x => !ltK x d1[a]!) d1 i (b - 1))) (fun vj _ => (intOf vj).toNat)
      case atStart => exact ⟨b - 1, by congr 1; omega, by omega, by omega, hTi, rfl⟩
      case round =>
        obtain ⟨j, rfl, hjb, hij, hT, hO⟩ := hrel
        by_cases hle : i ≤ j
        · cases hl : ltK d1[j]! d1[a]! with
          | false =>
            have HL : Aside _ := hl
            clear hl
            obtain ⟨x3, x3', y3, y3', ca3, cb3, cc3, cd3, hc3⟩ := cmpF hT.out D1.out (j) (a) (by omega) (by omega) HL.out
            have g3_0a : ((j : Int)).toNat = j := by omega
            have g3_0b : (0 : Int) ≤ (j : Int) := by omega
            have g3_0c : (j : Int) < (n : Int) := by omega
            have g3_0d : IntKind.i64.wrap ((j : Int)) = (j : Int) := by rw [IntKind.wrap_i64]; omega
            have g3_1a : ((a : Int)).toNat = a := by omega
            have g3_1b : (0 : Int) ≤ (a : Int) := by omega
            have g3_1c : (a : Int) < (n : Int) := by omega
            have g3_1d : IntKind.i64.wrap ((a : Int)) = (a : Int) := by rw [IntKind.wrap_i64]; omega
            go_wp2_with fail
            go_still_tail 13, (by kernel_rfl)
            change wpList _ _ _ _ _ wr.drew
            have TD3 := hT.out.drewN 1
            change Tn _ _ _ wr.drew at TD3
            generalize wr.drew = wd3 at TD3 ⊢
            clear ca3 cb3 cc3 cd3 g3_0a g3_0b g3_0c g3_0d g3_1a g3_1b g3_1c g3_1d
            go_wp2_with fail
            refine (hc3.out wd3).mono ?_
            rintro e _ ⟨z3, rfl, hz3, o3, o3', rfl⟩
            have T2 := aside ((TD3.alloc o3).alloc o3')
            generalize (wd3.alloc o3).alloc o3' = w2 at T2 ⊢
            clear TD3 hc3 o3 o3'
            have hd3 : decide (z3 < 0) = false := decide_eq_false (by omega)
            go_wp2_with fail
            go_roundw
            case rel => exact ⟨j - 1, by congr 1; omega, by omega, by omega, T2, by rw [← hO.out, Pl.down_go (fun x => !ltK x d1[a]!) d1 i j hle (by omega) (by simp only [HL.out]; rfl)]; exact rfl⟩
            case measure => simp [intOf]; omega
          | true =>
            have HL : Aside _ := hl
            clear hl
            obtain ⟨x4, x4', y4, y4', ca4, cb4, cc4, cd4, hc4⟩ := cmpT hT.out D1.out (j) (a) (by omega) (by omega) HL.out
            have g4_0a : ((j : Int)).toNat = j := by omega
            have g4_0b : (0 : Int) ≤ (j : Int) := by omega
            have g4_0c : (j : Int) < (n : Int) := by omega
            have g4_0d : IntKind.i64.wrap ((j : Int)) = (j : Int) := by rw [IntKind.wrap_i64]; omega
            have g4_1a : ((a : Int)).toNat = a := by omega
            have g4_1b : (0 : Int) ≤ (a : Int) := by omega
            have g4_1c : (a : Int) < (n : Int) := by omega
            have g4_1d : IntKind.i64.wrap ((a : Int)) = (a : Int) := by rw [IntKind.wrap_i64]; omega
            go_wp2_with fail
            go_still_tail 13, (by kernel_rfl)
            change wpList _ _ _ _ _ wr.drew
            have TD4 := hT.out.drewN 1
            change Tn _ _ _ wr.drew at TD4
            generalize wr.drew = wd4 at TD4 ⊢
            clear ca4 cb4 cc4 cd4 g4_0a g4_0b g4_0c g4_0d g4_1a g4_1b g4_1c g4_1d
            go_wp2_with fail
            refine (hc4.out wd4).mono ?_
            rintro e _ ⟨z4, rfl, hz4, o4, o4', rfl⟩
            have T2 := aside ((TD4.alloc o4).alloc o4')
            generalize (wd4.alloc o4).alloc o4' = w2 at T2 ⊢
            clear TD4 hc4 o4 o4'
            have hd4 : decide (z4 < 0) = true := decide_eq_true (by omega)
            go_wp2_with fail
            go_meet
            case rel => exact ⟨j, rfl, hjb, hij, T2, by rw [← hO.out, Pl.down_end (fun x => !ltK x d1[a]!) d1 i j (.inr (by simp only [HL.out]; rfl))]; exact rfl, fun _ => HL.out⟩
        · have gz : ¬ (i : Int) ≤ (j : Int) := by omega
          have gd : decide ((i : Int) ≤ (j : Int)) = false := decide_eq_false gz
          have gn : decide (i ≤ j) = false := decide_eq_false hle
          go_wp2_with fail
          go_quiet (fail)
          have TQ := aside (hT.out.drewN nq)
          generalize wr.drewN nq = wq at TQ ⊢
          go_wp2_with fail
          go_meet
          case rel => exact ⟨j, rfl, hjb, hij, TQ, by rw [← hO.out, Pl.down_end (fun x => !ltK x d1[a]!) d1 i j (.inl hle)]; exact rfl, fun h => absurd h hle⟩
    case rest =>
      obtain ⟨j, rfl, hjb, hij, hTj, hJj, hFj⟩ := hcut
      by_cases hgt : j < i
      · have e := part_short E1.out hIi.out hJj.out hgt
        obtain ⟨X10, X10', Y10, Y10', -, -, a10, a10', b10, b10', p10, p10', q10, q10', ⟨u10, e10⟩, ⟨v10, e10'⟩, ⟨t10, e10''⟩, S10⟩ := exch hTj.out (j) (a) (by rw [D1.out]; omega) (by rw [D1.out]; omega)
        have T2 := aside (S10 1)
        clear S10
        have g10_0a : ((j : Int)).toNat = j := by omega
        have g10_0b : (0 : Int) ≤ (j : Int) := by omega
        have g10_0c : (j : Int) < (n : Int) := by omega
        have g10_0d : IntKind.i64.wrap ((j : Int)) = (j : Int) := by rw [IntKind.wrap_i64]; omega
        have g10_1a : ((a : Int)).toNat = a := by omega
        have g10_1b : (0 : Int) ≤ (a : Int) := by omega
        have g10_1c : (a : Int) < (n : Int) := by omega
        have g10_1d : IntKind.i64.wrap ((a : Int)) = (a : Int) := by rw [IntKind.wrap_i64]; omega
        go_wp2_with fail
        go_region
        clear e10 e10' e10'' a10 a10' b10 b10' p10 p10' q10 q10' g10_0a g10_0b g10_0c g10_0d g10_1a g10_1b g10_1c g10_1d
        go_wp2_with fail
        go_ret2
        rw [← HR.out, e]
        exact ⟨rfl, T2⟩
      · have hne := Pl.stops_ne (fun x => ltK x d1[a]!) d1 (hFi.out (by omega)) (hFj.out (by omega))
        have hlt : i < j := by omega
        have HE : Aside _ := part_long E1.out hIi.out hJj.out (Nat.le_of_lt hlt)
        clear hne
        obtain ⟨X11, X11', Y11, Y11', -, -, a11, a11', b11, b11', p11, p11', q11, q11', ⟨u11, e11⟩, ⟨v11, e11'⟩, ⟨t11, e11''⟩, S11⟩ := exch hTj.out (i) (j) (by rw [D1.out]; omega) (by rw [D1.out]; omega)
        have T2 := aside (S11 1)
        clear S11
        have g11_0a : ((i : Int)).toNat = i := by omega
        have g11_0b : (0 : Int) ≤ (i : Int) := by omega
        have g11_0c : (i : Int) < (n : Int) := by omega
        have g11_0d : IntKind.i64.wrap ((i : Int)) = (i : Int) := by rw [IntKind.wrap_i64]; omega
        have g11_1a : ((j : Int)).toNat = j := by omega
        have g11_1b : (0 : Int) ≤ (j : Int) := by omega
        have g11_1c : (j : Int) < (n : Int) := by omega
        have g11_1d : IntKind.i64.wrap ((j : Int)) = (j : Int) := by rw [IntKind.wrap_i64]; omega
        go_wp2_with fail
        go_region
        clear e11 e11' e11'' a11 a11' b11 b11' p11 p11' q11 q11' g11_0a g11_0b g11_0c g11_0d g11_1a g11_1b g11_1c g11_1d
        go_wp2_with fail
        go_loopg [12, 13] (j - 1 + 1 - (i + 1)) (fun g vi vj wr => ∃ (x y : Nat) (dk : Array (Int × Int)), vi = .int .i64 x ∧ vj = .int .i64 y ∧ a < x ∧ x ≤ y + 1 ∧ y < b ∧ y + 1 - x ≤ g ∧ Aside (dk.size = n) ∧ Aside (Tn blk dk w wr) ∧ Aside (partLoop ltK a x y dk = partLoop ltK a (i + 1) (j - 1) (swp d1 i j)))
        case atStart => exact ⟨i + 1, j - 1, _, by go_num, by congr 1; omega, by omega, by omega, by omega, Nat.le_refl _, (size_swp _ _ _).trans D1.out, T2, rfl⟩
        case round =>
          obtain ⟨x, y, dk, rfl, rfl, hax, hxy, hyb, hg, hsk, hT, hO⟩ := hrel
          clear T2 hTj hTi hIi hJj hFi hFj
          go_upto_block 6 with (fail)
          go_cut [12] from 105 to 162 (fun vi wc => ∃ x2 : Nat, vi = .int .i64 x2 ∧ x ≤ x2 ∧ x2 ≤ y + 1 ∧ Aside (Tn blk dk w wc) ∧ Aside (x2 = scanUp (fun z => ltK z dk[a]!) dk y x) ∧ Aside (x2 ≤ y → ltK dk[x2]! dk[a]! = false))
          case first =>
            go_wp2_with fail
            go_loopw [12] (fun vi wr => ∃ x2 : Nat, vi = .int .i64 x2 ∧ x ≤ x2 ∧ x2 ≤ y + 1 ∧ Aside (Tn blk dk w wr) ∧ Aside (scanUp (fun z => ltK z dk[a]!) dk y x2 = scanUp (fun z => ltK z dk[a]!) dk y x)) (fun vi _ => y + 1 - (intOf vi).toNat)
            case atStart => exact ⟨x, rfl, Nat.le_refl _, hxy, hT, rfl⟩
            case round =>
              clear hT
              obtain ⟨x2, rfl, hxx, hxy2, hT, hP⟩ := hrel
              by_cases hle : x2 ≤ y
              · cases hl : ltK dk[x2]! dk[a]! with
                | true =>
                  have HL : Aside _ := hl
                  clear hl
                  obtain ⟨x5, x5', y5, y5', ca5, cb5, cc5, cd5, hc5⟩ := cmpT hT.out hsk.out (x2) (a) (by omega) (by omega) HL.out
                  have g5_0a : ((x2 : Int)).toNat = x2 := by omega
                  have g5_0b : (0 : Int) ≤ (x2 : Int) := by omega
                  have g5_0c : (x2 : Int) < (n : Int) := by omega
                  have g5_0d : IntKind.i64.wrap ((x2 : Int)) = (x2 : Int) := by rw [IntKind.wrap_i64]; omega
                  have g5_1a : ((a : Int)).toNat = a := by omega
                  have g5_1b : (0 : Int) ≤ (a : Int) := by omega
                  have g5_1c : (a : Int) < (n : Int) := by omega
                  have g5_1d : IntKind.i64.wrap ((a : Int)) = (a : Int) := by rw [IntKind.wrap_i64]; omega
                  go_wp2_with fail
                  go_still_tail 13, (by kernel_rfl)
                  change wpList _ _ _ _ _ wr.drew
                  have TD5 := hT.out.drewN 1
                  change Tn _ _ _ wr.drew at TD5
                  generalize wr.drew = wd5 at TD5 ⊢
                  clear ca5 cb5 cc5 cd5 g5_0a g5_0b g5_0c g5_0d g5_1a g5_1b g5_1c g5_1d
                  go_wp2_with fail
                  refine (hc5.out wd5).mono ?_
                  rintro e _ ⟨z5, rfl, hz5, o5, o5', rfl⟩
                  have T2 := aside ((TD5.alloc o5).alloc o5')
                  generalize (wd5.alloc o5).alloc o5' = w2 at T2 ⊢
                  clear TD5 hc5 o5 o5'
                  have hd5 : decide (z5 < 0) = true := decide_eq_true (by omega)
                  go_wp2_with fail
                  go_roundw
                  case rel => exact ⟨x2 + 1, by go_num, by omega, by omega, T2, by rw [← hP.out, Pl.up_go (fun z => ltK z dk[a]!) dk y x2 hle HL.out]; exact rfl⟩
                  case measure => simp [intOf]; omega
                | false =>
                  have HL : Aside _ := hl
                  clear hl
                  obtain ⟨x6, x6', y6, y6', ca6, cb6, cc6, cd6, hc6⟩ := cmpF hT.out hsk.out (x2) (a) (by omega) (by omega) HL.out
                  have g6_0a : ((x2 : Int)).toNat = x2 := by omega
                  have g6_0b : (0 : Int) ≤ (x2 : Int) := by omega
                  have g6_0c : (x2 : Int) < (n : Int) := by omega
                  have g6_0d : IntKind.i64.wrap ((x2 : Int)) = (x2 : Int) := by rw [IntKind.wrap_i64]; omega
                  have g6_1a : ((a : Int)).toNat = a := by omega
                  have g6_1b : (0 : Int) ≤ (a : Int) := by omega
                  have g6_1c : (a : Int) < (n : Int) := by omega
                  have g6_1d : IntKind.i64.wrap ((a : Int)) = (a : Int) := by rw [IntKind.wrap_i64]; omega
                  go_wp2_with fail
                  go_still_tail 13, (by kernel_rfl)
                  change wpList _ _ _ _ _ wr.drew
                  have TD6 := hT.out.drewN 1
                  change Tn _ _ _ wr.drew at TD6
                  generalize wr.drew = wd6 at TD6 ⊢
                  clear ca6 cb6 cc6 cd6 g6_0a g6_0b g6_0c g6_0d g6_1a g6_1b g6_1c g6_1d
                  go_wp2_with fail
                  refine (hc6.out wd6).mono ?_
                  rintro e _ ⟨z6, rfl, hz6, o6, o6', rfl⟩
                  have T2 := aside ((TD6.alloc o6).alloc o6')
                  generalize (wd6.alloc o6).alloc o6' = w2 at T2 ⊢
                  clear TD6 hc6 o6 o6'
                  have hd6 : decide (z6 < 0) = false := decide_eq_false (by omega)
                  go_wp2_with fail
                  go_meet
                  case rel => exact ⟨x2, rfl, hxx, hxy2, T2, by rw [← hP.out, Pl.up_end (fun z => ltK z dk[a]!) dk y x2 (.inr HL.out)]; exact rfl, fun _ => HL.out⟩
              · have gz : ¬ (x2 : Int) ≤ (y : Int) := by omega
                have gd : decide ((x2 : Int) ≤ (y : Int)) = false := decide_eq_false gz
                have gn : decide (x2 ≤ y) = false := decide_eq_false hle
                go_wp2_with fail
                go_quiet (fail)
                have TQ := aside (hT.out.drewN nq)
                generalize wr.drewN nq = wq at TQ ⊢
                go_wp2_with fail
                go_meet
                case rel => exact ⟨x2, rfl, hxx, hxy2, TQ, by rw [← hP.out, Pl.up_end (fun z => ltK z dk[a]!) dk y x2 (.inl hle)]; exact rfl, fun h => absurd h hle⟩
          case rest =>
            clear hT
            obtain ⟨x2, rfl, hxx, hxy2, hTi, hIi, hFi⟩ := hcut
            go_upto_block 8 with (fail)
            go_cut [13] from 105 to 162 (fun vj wc => ∃ y2 : Nat, vj = .int .i64 y2 ∧ y2 ≤ y ∧ x2 ≤ y2 + 1 ∧ Aside (Tn blk dk w wc) ∧ Aside (y2 = scanDown (fun z => !ltK z dk[a]!) dk x2 y) ∧ Aside (x2 ≤ y2 → ltK dk[y2]! dk[a]! = true))
            case first =>
              go_wp2_with fail
              go_loopw [13] (fun vj wr => ∃ y2 : Nat, vj = .int .i64 y2 ∧ y2 ≤ y ∧ x2 ≤ y2 + 1 ∧ Aside (Tn blk dk w wr) ∧ Aside (scanDown (fun z => !ltK z dk[a]!) dk x2 y2 = scanDown (fun z => !ltK z dk[a]!) dk x2 y)) (fun vj _ => (intOf vj).toNat)
              case atStart => exact ⟨y, rfl, Nat.le_refl _, hxy2, hTi, rfl⟩
              case round =>
                clear hTi
                obtain ⟨y2, rfl, hyy, hxy3, hT, hP⟩ := hrel
                by_cases hle : x2 ≤ y2
                · cases hl : ltK dk[y2]! dk[a]! with
                  | false =>
                    have HL : Aside _ := hl
                    clear hl
                    obtain ⟨x7, x7', y7, y7', ca7, cb7, cc7, cd7, hc7⟩ := cmpF hT.out hsk.out (y2) (a) (by omega) (by omega) HL.out
                    have g7_0a : ((y2 : Int)).toNat = y2 := by omega
                    have g7_0b : (0 : Int) ≤ (y2 : Int) := by omega
                    have g7_0c : (y2 : Int) < (n : Int) := by omega
                    have g7_0d : IntKind.i64.wrap ((y2 : Int)) = (y2 : Int) := by rw [IntKind.wrap_i64]; omega
                    have g7_1a : ((a : Int)).toNat = a := by omega
                    have g7_1b : (0 : Int) ≤ (a : Int) := by omega
                    have g7_1c : (a : Int) < (n : Int) := by omega
                    have g7_1d : IntKind.i64.wrap ((a : Int)) = (a : Int) := by rw [IntKind.wrap_i64]; omega
                    go_wp2_with fail
                    go_still_tail 13, (by kernel_rfl)
                    change wpList _ _ _ _ _ wr.drew
                    have TD7 := hT.out.drewN 1
                    change Tn _ _ _ wr.drew at TD7
                    generalize wr.drew = wd7 at TD7 ⊢
                    clear ca7 cb7 cc7 cd7 g7_0a g7_0b g7_0c g7_0d g7_1a g7_1b g7_1c g7_1d
                    go_wp2_with fail
                    refine (hc7.out wd7).mono ?_
                    rintro e _ ⟨z7, rfl, hz7, o7, o7', rfl⟩
                    have T2 := aside ((TD7.alloc o7).alloc o7')
                    generalize (wd7.alloc o7).alloc o7' = w2 at T2 ⊢
                    clear TD7 hc7 o7 o7'
                    have hd7 : decide (z7 < 0) = false := decide_eq_false (by omega)
                    go_wp2_with fail
                    go_roundw
                    case rel => exact ⟨y2 - 1, by congr 1; omega, by omega, by omega, T2, by rw [← hP.out, Pl.down_go (fun z => !ltK z dk[a]!) dk x2 y2 hle (by omega) (by simp only [HL.out]; rfl)]; exact rfl⟩
                    case measure => simp [intOf]; omega
                  | true =>
                    have HL : Aside _ := hl
                    clear hl
                    obtain ⟨x8, x8', y8, y8', ca8, cb8, cc8, cd8, hc8⟩ := cmpT hT.out hsk.out (y2) (a) (by omega) (by omega) HL.out
                    have g8_0a : ((y2 : Int)).toNat = y2 := by omega
                    have g8_0b : (0 : Int) ≤ (y2 : Int) := by omega
                    have g8_0c : (y2 : Int) < (n : Int) := by omega
                    have g8_0d : IntKind.i64.wrap ((y2 : Int)) = (y2 : Int) := by rw [IntKind.wrap_i64]; omega
                    have g8_1a : ((a : Int)).toNat = a := by omega
                    have g8_1b : (0 : Int) ≤ (a : Int) := by omega
                    have g8_1c : (a : Int) < (n : Int) := by omega
                    have g8_1d : IntKind.i64.wrap ((a : Int)) = (a : Int) := by rw [IntKind.wrap_i64]; omega
                    go_wp2_with fail
                    go_still_tail 13, (by kernel_rfl)
                    change wpList _ _ _ _ _ wr.drew
                    have TD8 := hT.out.drewN 1
                    change Tn _ _ _ wr.drew at TD8
                    generalize wr.drew = wd8 at TD8 ⊢
                    clear ca8 cb8 cc8 cd8 g8_0a g8_0b g8_0c g8_0d g8_1a g8_1b g8_1c g8_1d
                    go_wp2_with fail
                    refine (hc8.out wd8).mono ?_
                    rintro e _ ⟨z8, rfl, hz8, o8, o8', rfl⟩
                    have T2 := aside ((TD8.alloc o8).alloc o8')
                    generalize (wd8.alloc o8).alloc o8' = w2 at T2 ⊢
                    clear TD8 hc8 o8 o8'
                    have hd8 : decide (z8 < 0) = true := decide_eq_true (by omega)
                    go_wp2_with fail
                    go_meet
                    case rel => exact ⟨y2, rfl, hyy, hxy3, T2, by rw [← hP.out, Pl.down_end (fun z => !ltK z dk[a]!) dk x2 y2 (.inr (by simp only [HL.out]; rfl))]; exact rfl, fun _ => HL.out⟩
                · have gz : ¬ (x2 : Int) ≤ (y2 : Int) := by omega
                  have gd : decide ((x2 : Int) ≤ (y2 : Int)) = false := decide_eq_false gz
                  have gn : decide (x2 ≤ y2) = false := decide_eq_false hle
                  go_wp2_with fail
                  go_quiet (fail)
                  have TQ := aside (hT.out.drewN nq)
                  generalize wr.drewN nq = wq at TQ ⊢
                  go_wp2_with fail
                  go_meet
                  case rel => exact ⟨y2, rfl, hyy, hxy3, TQ, by rw [← hP.out, Pl.down_end (fun z => !ltK z dk[a]!) dk x2 y2 (.inl hle)]; exact rfl, fun h => absurd h hle⟩
            case rest =>
              clear hTi
              obtain ⟨y2, rfl, hyy, hxy3, hTj, hJj, hFj⟩ := hcut
              by_cases hgt : y2 < x2
              · have e := (hO.out.symm.trans (Pl.part_break a x y dk hIi.out hJj.out hgt))
                obtain ⟨X12, X12', Y12, Y12', -, -, a12, a12', b12, b12', p12, p12', q12, q12', ⟨u12, e12⟩, ⟨v12, e12'⟩, ⟨t12, e12''⟩, S12⟩ := exch hTj.out (y2) (a) (by rw [hsk.out]; omega) (by rw [hsk.out]; omega)
                have T2 := aside (S12 1)
                clear S12
                have g12_0a : ((y2 : Int)).toNat = y2 := by omega
                have g12_0b : (0 : Int) ≤ (y2 : Int) := by omega
                have g12_0c : (y2 : Int) < (n : Int) := by omega
                have g12_0d : IntKind.i64.wrap ((y2 : Int)) = (y2 : Int) := by rw [IntKind.wrap_i64]; omega
                have g12_1a : ((a : Int)).toNat = a := by omega
                have g12_1b : (0 : Int) ≤ (a : Int) := by omega
                have g12_1c : (a : Int) < (n : Int) := by omega
                have g12_1d : IntKind.i64.wrap ((a : Int)) = (a : Int) := by rw [IntKind.wrap_i64]; omega
                go_wp2_with fail
                go_region
                clear e12 e12' e12'' a12 a12' b12 b12' p12 p12' q12 q12' g12_0a g12_0b g12_0c g12_0d g12_1a g12_1b g12_1c g12_1d
                go_wp2_with fail
                go_ret2
                rw [← HR.out, HE.out, e]
                exact ⟨rfl, T2⟩
              · have hne := Pl.stops_ne (fun z => ltK z dk[a]!) dk (hFi.out (by omega)) (hFj.out (by omega))
                have hlt : x2 < y2 := by omega
                clear hne
                obtain ⟨X13, X13', Y13, Y13', -, -, a13, a13', b13, b13', p13, p13', q13, q13', ⟨u13, e13⟩, ⟨v13, e13'⟩, ⟨t13, e13''⟩, S13⟩ := exch hTj.out (x2) (y2) (by rw [hsk.out]; omega) (by rw [hsk.out]; omega)
                have T2 := aside (S13 1)
                clear S13
                have g13_0a : ((x2 : Int)).toNat = x2 := by omega
                have g13_0b : (0 : Int) ≤ (x2 : Int) := by omega
                have g13_0c : (x2 : Int) < (n : Int) := by omega
                have g13_0d : IntKind.i64.wrap ((x2 : Int)) = (x2 : Int) := by rw [IntKind.wrap_i64]; omega
                have g13_1a : ((y2 : Int)).toNat = y2 := by omega
                have g13_1b : (0 : Int) ≤ (y2 : Int) := by omega
                have g13_1c : (y2 : Int) < (n : Int) := by omega
                have g13_1d : IntKind.i64.wrap ((y2 : Int)) = (y2 : Int) := by rw [IntKind.wrap_i64]; omega
                go_wp2_with fail
                go_region
                clear e13 e13' e13'' a13 a13' b13 b13' p13 p13' q13 q13' g13_0a g13_0b g13_0c g13_0d g13_1a g13_1b g13_1c g13_1d
                go_wp2_with fail
                go_roundg (y2 - 1 + 1 - (x2 + 1))
                case measure => omega
                case rel => exact ⟨x2 + 1, y2 - 1, _, by go_num, by congr 1; omega, by omega, by omega, by omega, Nat.le_refl _, (size_swp _ _ _).trans hsk.out, T2, by rw [← hO.out, Pl.part_go a x y dk hIi.out hJj.out (by omega)]; exact rfl⟩
theorem tpartition_at {w0 w : World} {d : Array (Int × Int)} (h : Tn blk d w0 w) (hs : d.size = n) (hn : n ≤ 4096) (a b pivot : Nat) (hap : a ≤ pivot) (hpb : pivot < b) (hb : b ≤ n) {A B K : Int} (eA : A = a) (eB : B = b) (eK : K = pivot) :
    Calls Try.prog 112 #[.slice (some ⟨blk, 0, none⟩) n c1, .int .i64 A, .int .i64 B, .int .i64 K, .func (.func 82) #[] #[]] w (TPost blk (partition ltK d a b pivot).2.2 w0 w (.tuple #[.int .i64 (partition ltK d a b pivot).1, .bool (partition ltK d a b pivot).2.1])) := by
  subst eA eB eK
  exact tpost (tpartition_any d w h.self hs hn a b pivot hap hpb hb) h (Pl.partition_size _ _ _ _)

set_option maxHeartbeats 16000000 in
set_option maxRecDepth 100000 in
theorem tpartitionEqual_any (d : Array (Int × Int)) (w : World) (h : Tn blk d w w) (hs : d.size = n) (hn : n ≤ 4096) (a b pivot : Nat) (hap : a ≤ pivot) (hpb : pivot < b) (hb : b ≤ n) :
    Calls Try.prog 111 #[.slice (some ⟨blk, 0, none⟩) n c1, .int .i64 a, .int .i64 b, .int .i64 pivot, .func (.func 82) #[] #[]] w fun e w' =>
      e = .returned (.int .i64 (partitionEqual ltK d a b pivot).1) ∧ Tn blk (partitionEqual ltK d a b pivot).2 w w' := by
  have ek := byKey_enters
  have H := aside h
  have HS := aside hs
  clear h hs
  have HR : Aside (partitionEqual ltK d a b pivot = partEqLoop ltK a (a + 1) (b - 1) (swp d a pivot)) := rfl
  generalize partitionEqual ltK d a b pivot = r at HR ⊢
  go_enter Try.func111, Try.ntmps111
  obtain ⟨X18, X18', Y18, Y18', -, -, a18, a18', b18, b18', p18, p18', q18, q18', ⟨u18, e18⟩, ⟨v18, e18'⟩, ⟨t18, e18''⟩, S18⟩ := exch H.out (a) (pivot) (by rw [HS.out]; omega) (by rw [HS.out]; omega)
  have T1 := aside (S18 1)
  clear S18
  have g18_0a : ((a : Int)).toNat = a := by omega
  have g18_0b : (0 : Int) ≤ (a : Int) := by omega
  have g18_0c : (a : Int) < (n : Int) := by omega
  have g18_0d : IntKind.i64.wrap ((a : Int)) = (a : Int) := by rw [IntKind.wrap_i64]; omega
  have g18_1a : ((pivot : Int)).toNat = pivot := by omega
  have g18_1b : (0 : Int) ≤ (pivot : Int) := by omega
  have g18_1c : (pivot : Int) < (n : Int) := by omega
  have g18_1d : IntKind.i64.wrap ((pivot : Int)) = (pivot : Int) := by rw [IntKind.wrap_i64]; omega
  go_wp2_with fail
  go_region
  clear e18 e18' e18'' a18 a18' b18 b18' p18 p18' q18 q18' g18_0a g18_0b g18_0c g18_0d g18_1a g18_1b g18_1c g18_1d
  have D1 := aside ((size_swp d a pivot).trans HS.out)
  generalize swp d a pivot = d1 at T1 D1 HR
  go_wp2_with fail
  go_loopg [11, 12] (b - (a + 1)) (fun g vi vj wr => ∃ (x y : Nat) (dk : Array (Int × Int)), vi = .int .i64 x ∧ vj = .int .i64 y ∧ a < x ∧ x ≤ y + 1 ∧ y < b ∧ y + 1 - x ≤ g ∧ Aside (dk.size = n) ∧ Aside (Tn blk dk w wr) ∧ Aside (partEqLoop ltK a x y dk = partEqLoop ltK a (a + 1) (b - 1) d1))
  case atStart => exact ⟨a + 1, b - 1, _, by go_num, by congr 1; omega, by omega, by omega, by omega, by omega, D1, T1, rfl⟩
  case round =>
    obtain ⟨x, y, dk, rfl, rfl, hax, hxy, hyb, hg, hsk, hT, hO⟩ := hrel
    clear T1 D1
    go_upto_block 2 with (fail)
    go_cut [11] from 31 to 88 (fun vi wc => ∃ x2 : Nat, vi = .int .i64 x2 ∧ x ≤ x2 ∧ x2 ≤ y + 1 ∧ Aside (Tn blk dk w wc) ∧ Aside (x2 = scanUp (fun z => !ltK dk[a]! z) dk y x) ∧ Aside (x2 ≤ y → ltK dk[a]! dk[x2]! = true))
    case first =>
      go_wp2_with fail
      go_loopw [11] (fun vi wr => ∃ x2 : Nat, vi = .int .i64 x2 ∧ x ≤ x2 ∧ x2 ≤ y + 1 ∧ Aside (Tn blk dk w wr) ∧ Aside (scanUp (fun z => !ltK dk[a]! z) dk y x2 = scanUp (fun z => !ltK dk[a]! z) dk y x)) (fun vi _ => y + 1 - (intOf vi).toNat)
      case atStart => exact ⟨x, rfl, Nat.le_refl _, hxy, hT, rfl⟩
      case round =>
        clear hT
        obtain ⟨x2, rfl, hxx, hxy2, hT, hP⟩ := hrel
        by_cases hle : x2 ≤ y
        · cases hl : ltK dk[a]! dk[x2]! with
          | false =>
            have HL : Aside _ := hl
            clear hl
            obtain ⟨x14, x14', y14, y14', ca14, cb14, cc14, cd14, hc14⟩ := cmpF hT.out hsk.out (a) (x2) (by omega) (by omega) HL.out
            have g14_0a : ((a : Int)).toNat = a := by omega
            have g14_0b : (0 : Int) ≤ (a : Int) := by omega
            have g14_0c : (a : Int) < (n : Int) := by omega
            have g14_0d : IntKind.i64.wrap ((a : Int)) = (a : Int) := by rw [IntKind.wrap_i64]; omega
            have g14_1a : ((x2 : Int)).toNat = x2 := by omega
            have g14_1b : (0 : Int) ≤ (x2 : Int) := by omega
            have g14_1c : (x2 : Int) < (n : Int) := by omega
            have g14_1d : IntKind.i64.wrap ((x2 : Int)) = (x2 : Int) := by rw [IntKind.wrap_i64]; omega
            go_wp2_with fail
            go_still_tail 13, (by kernel_rfl)
            change wpList _ _ _ _ _ wr.drew
            have TD14 := hT.out.drewN 1
            change Tn _ _ _ wr.drew at TD14
            generalize wr.drew = wd14 at TD14 ⊢
            clear ca14 cb14 cc14 cd14 g14_0a g14_0b g14_0c g14_0d g14_1a g14_1b g14_1c g14_1d
            go_wp2_with fail
            refine (hc14.out wd14).mono ?_
            rintro e _ ⟨z14, rfl, hz14, o14, o14', rfl⟩
            have T2 := aside ((TD14.alloc o14).alloc o14')
            generalize (wd14.alloc o14).alloc o14' = w2 at T2 ⊢
            clear TD14 hc14 o14 o14'
            have hd14 : decide (z14 < 0) = false := decide_eq_false (by omega)
            go_wp2_with fail
            go_roundw
            case rel => exact ⟨x2 + 1, by go_num, by omega, by omega, T2, by rw [← hP.out, Pl.up_go (fun z => !ltK dk[a]! z) dk y x2 hle (by simp only [HL.out]; rfl)]; exact rfl⟩
            case measure => simp [intOf]; omega
          | true =>
            have HL : Aside _ := hl
            clear hl
            obtain ⟨x15, x15', y15, y15', ca15, cb15, cc15, cd15, hc15⟩ := cmpT hT.out hsk.out (a) (x2) (by omega) (by omega) HL.out
            have g15_0a : ((a : Int)).toNat = a := by omega
            have g15_0b : (0 : Int) ≤ (a : Int) := by omega
            have g15_0c : (a : Int) < (n : Int) := by omega
            have g15_0d : IntKind.i64.wrap ((a : Int)) = (a : Int) := by rw [IntKind.wrap_i64]; omega
            have g15_1a : ((x2 : Int)).toNat = x2 := by omega
            have g15_1b : (0 : Int) ≤ (x2 : Int) := by omega
            have g15_1c : (x2 : Int) < (n : Int) := by omega
            have g15_1d : IntKind.i64.wrap ((x2 : Int)) = (x2 : Int) := by rw [IntKind.wrap_i64]; omega
            go_wp2_with fail
            go_still_tail 13, (by kernel_rfl)
            change wpList _ _ _ _ _ wr.drew
            have TD15 := hT.out.drewN 1
            change Tn _ _ _ wr.drew at TD15
            generalize wr.drew = wd15 at TD15 ⊢
            clear ca15 cb15 cc15 cd15 g15_0a g15_0b g15_0c g15_0d g15_1a g15_1b g15_1c g15_1d
            go_wp2_with fail
            refine (hc15.out wd15).mono ?_
            rintro e _ ⟨z15, rfl, hz15, o15, o15', rfl⟩
            have T2 := aside ((TD15.alloc o15).alloc o15')
            generalize (wd15.alloc o15).alloc o15' = w2 at T2 ⊢
            clear TD15 hc15 o15 o15'
            have hd15 : decide (z15 < 0) = true := decide_eq_true (by omega)
            go_wp2_with fail
            go_meet
            case rel => exact ⟨x2, rfl, hxx, hxy2, T2, by rw [← hP.out, Pl.up_end (fun z => !ltK dk[a]! z) dk y x2 (.inr (by simp only [HL.out]; rfl))]; exact rfl, fun _ => HL.out⟩
        · have gz : ¬ (x2 : Int) ≤ (y : Int) := by omega
          have gd : decide ((x2 : Int) ≤ (y : Int)) = false := decide_eq_false gz
          have gn : decide (x2 ≤ y) = false := decide_eq_false hle
          go_wp2_with fail
          go_quiet (fail)
          have TQ := aside (hT.out.drewN nq)
          generalize wr.drewN nq = wq at TQ ⊢
          go_wp2_with fail
          go_meet
          case rel => exact ⟨x2, rfl, hxx, hxy2, TQ, by rw [← hP.out, Pl.up_end (fun z => !ltK dk[a]! z) dk y x2 (.inl hle)]; exact rfl, fun h => absurd h hle⟩
    case rest =>
      clear hT
      obtain ⟨x2, rfl, hxx, hxy2, hTi, hIi, hFi⟩ := hcut
      go_upto_block 4 with (fail)
      go_cut [12] from 31 to 88 (fun vj wc => ∃ y2 : Nat, vj = .int .i64 y2 ∧ y2 ≤ y ∧ x2 ≤ y2 + 1 ∧ Aside (Tn blk dk w wc) ∧ Aside (y2 = scanDown (fun z => ltK dk[a]! z) dk x2 y) ∧ Aside (x2 ≤ y2 → ltK dk[a]! dk[y2]! = false))
      case first =>
        go_wp2_with fail
        go_loopw [12] (fun vj wr => ∃ y2 : Nat, vj = .int .i64 y2 ∧ y2 ≤ y ∧ x2 ≤ y2 + 1 ∧ Aside (Tn blk dk w wr) ∧ Aside (scanDown (fun z => ltK dk[a]! z) dk x2 y2 = scanDown (fun z => ltK dk[a]! z) dk x2 y)) (fun vj _ => (intOf vj).toNat)
        case atStart => exact ⟨y, rfl, Nat.le_refl _, hxy2, hTi, rfl⟩
        case round =>
          clear hTi
          obtain ⟨y2, rfl, hyy, hxy3, hT, hP⟩ := hrel
          by_cases hle : x2 ≤ y2
          · cases hl : ltK dk[a]! dk[y2]! with
            | true =>
              have HL : Aside _ := hl
              clear hl
              obtain ⟨x16, x16', y16, y16', ca16, cb16, cc16, cd16, hc16⟩ := cmpT hT.out hsk.out (a) (y2) (by omega) (by omega) HL.out
              have g16_0a : ((a : Int)).toNat = a := by omega
              have g16_0b : (0 : Int) ≤ (a : Int) := by omega
              have g16_0c : (a : Int) < (n : Int) := by omega
              have g16_0d : IntKind.i64.wrap ((a : Int)) = (a : Int) := by rw [IntKind.wrap_i64]; omega
              have g16_1a : ((y2 : Int)).toNat = y2 := by omega
              have g16_1b : (0 : Int) ≤ (y2 : Int) := by omega
              have g16_1c : (y2 : Int) < (n : Int) := by omega
              have g16_1d : IntKind.i64.wrap ((y2 : Int)) = (y2 : Int) := by rw [IntKind.wrap_i64]; omega
              go_wp2_with fail
              go_still_tail 13, (by kernel_rfl)
              change wpList _ _ _ _ _ wr.drew
              have TD16 := hT.out.drewN 1
              change Tn _ _ _ wr.drew at TD16
              generalize wr.drew = wd16 at TD16 ⊢
              clear ca16 cb16 cc16 cd16 g16_0a g16_0b g16_0c g16_0d g16_1a g16_1b g16_1c g16_1d
              go_wp2_with fail
              refine (hc16.out wd16).mono ?_
              rintro e _ ⟨z16, rfl, hz16, o16, o16', rfl⟩
              have T2 := aside ((TD16.alloc o16).alloc o16')
              generalize (wd16.alloc o16).alloc o16' = w2 at T2 ⊢
              clear TD16 hc16 o16 o16'
              have hd16 : decide (z16 < 0) = true := decide_eq_true (by omega)
              go_wp2_with fail
              go_roundw
              case rel => exact ⟨y2 - 1, by congr 1; omega, by omega, by omega, T2, by rw [← hP.out, Pl.down_go (fun z => ltK dk[a]! z) dk x2 y2 hle (by omega) HL.out]; exact rfl⟩
              case measure => simp [intOf]; omega
            | false =>
              have HL : Aside _ := hl
              clear hl
              obtain ⟨x17, x17', y17, y17', ca17, cb17, cc17, cd17, hc17⟩ := cmpF hT.out hsk.out (a) (y2) (by omega) (by omega) HL.out
              have g17_0a : ((a : Int)).toNat = a := by omega
              have g17_0b : (0 : Int) ≤ (a : Int) := by omega
              have g17_0c : (a : Int) < (n : Int) := by omega
              have g17_0d : IntKind.i64.wrap ((a : Int)) = (a : Int) := by rw [IntKind.wrap_i64]; omega
              have g17_1a : ((y2 : Int)).toNat = y2 := by omega
              have g17_1b : (0 : Int) ≤ (y2 : Int) := by omega
              have g17_1c : (y2 : Int) < (n : Int) := by omega
              have g17_1d : IntKind.i64.wrap ((y2 : Int)) = (y2 : Int) := by rw [IntKind.wrap_i64]; omega
              go_wp2_with fail
              go_still_tail 13, (by kernel_rfl)
              change wpList _ _ _ _ _ wr.drew
              have TD17 := hT.out.drewN 1
              change Tn _ _ _ wr.drew at TD17
              generalize wr.drew = wd17 at TD17 ⊢
              clear ca17 cb17 cc17 cd17 g17_0a g17_0b g17_0c g17_0d g17_1a g17_1b g17_1c g17_1d
              go_wp2_with fail
              refine (hc17.out wd17).mono ?_
              rintro e _ ⟨z17, rfl, hz17, o17, o17', rfl⟩
              have T2 := aside ((TD17.alloc o17).alloc o17')
              generalize (wd17.alloc o17).alloc o17' = w2 at T2 ⊢
              clear TD17 hc17 o17 o17'
              have hd17 : decide (z17 < 0) = false := decide_eq_false (by omega)
              go_wp2_with fail
              go_meet
              case rel => exact ⟨y2, rfl, hyy, hxy3, T2, by rw [← hP.out, Pl.down_end (fun z => ltK dk[a]! z) dk x2 y2 (.inr HL.out)]; exact rfl, fun _ => HL.out⟩
          · have gz : ¬ (x2 : Int) ≤ (y2 : Int) := by omega
            have gd : decide ((x2 : Int) ≤ (y2 : Int)) = false := decide_eq_false gz
            have gn : decide (x2 ≤ y2) = false := decide_eq_false hle
            go_wp2_with fail
            go_quiet (fail)
            have TQ := aside (hT.out.drewN nq)
            generalize wr.drewN nq = wq at TQ ⊢
            go_wp2_with fail
            go_meet
            case rel => exact ⟨y2, rfl, hyy, hxy3, TQ, by rw [← hP.out, Pl.down_end (fun z => ltK dk[a]! z) dk x2 y2 (.inl hle)]; exact rfl, fun h => absurd h hle⟩
      case rest =>
        clear hTi
        obtain ⟨y2, rfl, hyy, hxy3, hTj, hJj, hFj⟩ := hcut
        by_cases hgt : y2 < x2
        · have e := hO.out.symm.trans (Pl.partEq_break a x y dk hIi.out hJj.out hgt)
          have HE := aside e
          have TF := hTj
          clear e
          go_wp2_with fail
          go_ret
          rw [HR.out, HE.out]
          exact ⟨rfl, TF.out⟩
        · have hne : x2 ≠ y2 := by
            rintro rfl
            have h1 := hFi.out (by omega)
            have h2 := hFj.out (by omega)
            rw [h1] at h2; cases h2
          have hlt : x2 < y2 := by omega
          clear hne
          obtain ⟨X19, X19', Y19, Y19', -, -, a19, a19', b19, b19', p19, p19', q19, q19', ⟨u19, e19⟩, ⟨v19, e19'⟩, ⟨t19, e19''⟩, S19⟩ := exch hTj.out (x2) (y2) (by rw [hsk.out]; omega) (by rw [hsk.out]; omega)
          have T2 := aside (S19 1)
          clear S19
          have g19_0a : ((x2 : Int)).toNat = x2 := by omega
          have g19_0b : (0 : Int) ≤ (x2 : Int) := by omega
          have g19_0c : (x2 : Int) < (n : Int) := by omega
          have g19_0d : IntKind.i64.wrap ((x2 : Int)) = (x2 : Int) := by rw [IntKind.wrap_i64]; omega
          have g19_1a : ((y2 : Int)).toNat = y2 := by omega
          have g19_1b : (0 : Int) ≤ (y2 : Int) := by omega
          have g19_1c : (y2 : Int) < (n : Int) := by omega
          have g19_1d : IntKind.i64.wrap ((y2 : Int)) = (y2 : Int) := by rw [IntKind.wrap_i64]; omega
          go_wp2_with fail
          go_region
          clear e19 e19' e19'' a19 a19' b19 b19' p19 p19' q19 q19' g19_0a g19_0b g19_0c g19_0d g19_1a g19_1b g19_1c g19_1d
          go_wp2_with fail
          go_roundg (y2 - 1 + 1 - (x2 + 1))
          case measure => omega
          case rel => exact ⟨x2 + 1, y2 - 1, _, by go_num, by congr 1; omega, by omega, by omega, by omega, Nat.le_refl _, (size_swp _ _ _).trans hsk.out, T2, by rw [← hO.out, Pl.partEq_go a x y dk hIi.out hJj.out (by omega)]; exact rfl⟩
theorem tpartitionEqual_at {w0 w : World} {d : Array (Int × Int)} (h : Tn blk d w0 w) (hs : d.size = n) (hn : n ≤ 4096) (a b pivot : Nat) (hap : a ≤ pivot) (hpb : pivot < b) (hb : b ≤ n) {A B K : Int} (eA : A = a) (eB : B = b) (eK : K = pivot) :
    Calls Try.prog 111 #[.slice (some ⟨blk, 0, none⟩) n c1, .int .i64 A, .int .i64 B, .int .i64 K, .func (.func 82) #[] #[]] w (TPost blk (partitionEqual ltK d a b pivot).2 w0 w (.int .i64 (partitionEqual ltK d a b pivot).1)) := by
  subst eA eB eK
  exact tpost (tpartitionEqual_any d w h.self hs hn a b pivot hap hpb hb) h (Pl.partitionEqual_size _ _ _ _)
end
end Go.Proofs.Ytaifmeajfldckaa
