/- slices' partitionOrdered at numbers does what the plain partition does; sortinner.Partition and impl.PartitionTwin. Conditions: a <= pivot < b <= n <= 4096. -/
import Derived.Test.YtaifmeajfldckaaNum
import Derived.Test.YtaifmeajfldckaaPart
import Derived.Test.YtaifmeajfldckaaCmp
namespace Go.Proofs.Ytaifmeajfldckaa
open Go.RowKit Go.Sort Go.Proofs

theorem part_shortN {d d1 : Array Int} {a b pivot i j : Nat} (hd : swp d a pivot = d1) (hi : i = scanUp (fun x => ltInt x d1[a]!) d1 (b - 1) (a + 1)) (hj : j = scanDown (fun x => !ltInt x d1[a]!) d1 i (b - 1)) (h : j < i) :
    partition ltInt d a b pivot = (j, true, swp d1 j a) := by
  subst hd
  unfold partition
  dsimp only
  rw [← hi, ← hj, if_pos h]
theorem part_longN {d d1 : Array Int} {a b pivot i j : Nat} (hd : swp d a pivot = d1) (hi : i = scanUp (fun x => ltInt x d1[a]!) d1 (b - 1) (a + 1)) (hj : j = scanDown (fun x => !ltInt x d1[a]!) d1 i (b - 1)) (h : i ≤ j) :
    partition ltInt d a b pivot = ((partLoop ltInt a (i + 1) (j - 1) (swp d1 i j)).1, false, swp (partLoop ltInt a (i + 1) (j - 1) (swp d1 i j)).2 (partLoop ltInt a (i + 1) (j - 1) (swp d1 i j)).1 a) := by
  subst hd
  unfold partition
  dsimp only
  rw [← hi, ← hj, if_neg (by omega)]

section
variable {blk n c1 : Nat} {d : Array Int} {w0 w : World}
theorem lessNT (h : TnN blk d w0 w) (hs : d.size = n) (i j : Nat) (hi : i < n) (hj : j < n) (hb : ltInt d[i]! d[j]! = true) : ∃ x y : Int, w.cell? ⟨blk, i, none⟩ = some (.int .i64 x) ∧ w.cell? ⟨blk, j, none⟩ = some (.int .i64 y) ∧
    Aside (∀ W, Calls Try.prog 74 #[.int .i64 x, .int .i64 y] W fun e w' => e = .returned (.bool true) ∧ w' = W) :=
  ⟨_, _, h.c (by omega), h.c (by omega), fun W => by have := cmpLess_any d[i]! d[j]! W; rwa [show decide (d[i]! < d[j]!) = true from hb] at this⟩
theorem lessNF (h : TnN blk d w0 w) (hs : d.size = n) (i j : Nat) (hi : i < n) (hj : j < n) (hb : ltInt d[i]! d[j]! = false) : ∃ x y : Int, w.cell? ⟨blk, i, none⟩ = some (.int .i64 x) ∧ w.cell? ⟨blk, j, none⟩ = some (.int .i64 y) ∧
    Aside (∀ W, Calls Try.prog 74 #[.int .i64 x, .int .i64 y] W fun e w' => e = .returned (.bool false) ∧ w' = W) :=
  ⟨_, _, h.c (by omega), h.c (by omega), fun W => by have := cmpLess_any d[i]! d[j]! W; rwa [show decide (d[i]! < d[j]!) = false from hb] at this⟩

set_option maxHeartbeats 16000000 in
set_option maxRecDepth 100000 in
theorem npartition_any (d : Array Int) (w : World) (h : TnN blk d w w) (hs : d.size = n) (hn : n ≤ 4096) (a b pivot : Nat) (hap : a ≤ pivot) (hpb : pivot < b) (hb : b ≤ n) :
    Calls Try.prog 85 #[.slice (some ⟨blk, 0, none⟩) n c1, .int .i64 a, .int .i64 b, .int .i64 pivot] w fun e w' =>
      e = .returned (.tuple #[.int .i64 (partition ltInt d a b pivot).1, .bool (partition ltInt d a b pivot).2.1]) ∧ TnN blk (partition ltInt d a b pivot).2.2 w w' := by
  have H := aside h
  have HS := aside hs
  clear h hs
  obtain ⟨r, hr⟩ : ∃ r, partition ltInt d a b pivot = r := ⟨_, rfl⟩
  rw [hr]
  have HR : Aside _ := hr
  clear hr
  obtain ⟨d1, hd1⟩ : ∃ d1, swp d a pivot = d1 := ⟨_, rfl⟩
  have D1 : Aside (d1.size = n) := by rw [← hd1]; exact (size_swp _ _ _).trans HS.out
  have E1 : Aside _ := hd1
  clear hd1
  go_enter Try.func85, Try.ntmps85
  obtain ⟨X9, Y9, -, -, a9, b9, p9, q9, ⟨u9, e9⟩, S9⟩ := exchN H.out (a) (pivot) (by rw [HS.out]; omega) (by rw [HS.out]; omega)
  have T1 := aside (S9 1)
  clear S9
  have g9_0a : ((a : Int)).toNat = a := by omega
  have g9_0b : (0 : Int) ≤ (a : Int) := by omega
  have g9_0c : (a : Int) < (n : Int) := by omega
  have g9_0d : IntKind.i64.wrap ((a : Int)) = (a : Int) := by rw [IntKind.wrap_i64]; omega
  have g9_1a : ((pivot : Int)).toNat = pivot := by omega
  have g9_1b : (0 : Int) ≤ (pivot : Int) := by omega
  have g9_1c : (pivot : Int) < (n : Int) := by omega
  have g9_1d : IntKind.i64.wrap ((pivot : Int)) = (pivot : Int) := by rw [IntKind.wrap_i64]; omega
  go_wp2_with fail
  go_region
  clear e9 a9 b9 p9 q9 g9_0a g9_0b g9_0c g9_0d g9_1a g9_1b g9_1c g9_1d
  rw [E1.out] at T1
  -- the first upward scan
  go_upto_block 0 with (fail)
  go_cut [10] from 12 (fun vi wc => ∃ i : Nat, vi = .int .i64 i ∧ a < i ∧ i ≤ b ∧ Aside (TnN blk d1 w wc) ∧ Aside (i = scanUp (fun x => ltInt x d1[a]!) d1 (b - 1) (a + 1)) ∧ Aside (i ≤ b - 1 → ltInt d1[i]! d1[a]! = false))
  case first =>
    go_wp2_with fail
    go_loopw [10] (fun vi wr => ∃ i : Nat, vi = .int .i64 i ∧ a < i ∧ i ≤ b ∧ Aside (TnN blk d1 w wr) ∧ Aside (scanUp (fun x => ltInt x d1[a]!) d1 (b - 1) i = scanUp (fun x => ltInt x d1[a]!) d1 (b - 1) (a + 1))) (fun vi _ => b - (intOf vi).toNat)
    case atStart => exact ⟨a + 1, by go_num, by omega, by omega, T1, rfl⟩
    case round =>
      obtain ⟨i, rfl, hai, hib, hT, hO⟩ := hrel
      by_cases hle : i ≤ b - 1
      · have hle' : (i : Int) ≤ (b : Int) - 1 := by omega
        cases hl : ltInt d1[i]! d1[a]! with
        | true =>
          have HL : Aside _ := hl
          clear hl
          obtain ⟨x1, y1, ca1, cb1, hl1⟩ := lessNT hT.out D1.out i a (by omega) (by omega) HL.out
          have g1_0a : ((i : Int)).toNat = i := by omega
          have g1_0b : (0 : Int) ≤ (i : Int) := by omega
          have g1_0c : (i : Int) < (n : Int) := by omega
          have g1_0d : IntKind.i64.wrap ((i : Int)) = (i : Int) := by rw [IntKind.wrap_i64]; omega
          have g1_1a : ((a : Int)).toNat = a := by omega
          have g1_1b : (0 : Int) ≤ (a : Int) := by omega
          have g1_1c : (a : Int) < (n : Int) := by omega
          have g1_1d : IntKind.i64.wrap ((a : Int)) = (a : Int) := by rw [IntKind.wrap_i64]; omega
          go_wp2_with fail
          go_quiet ((go_at_call 74; exact Calls.quiet_of_same (hl1.out _)))
          have T2 := aside (hT.out.drewN nq)
          generalize wr.drewN nq = w2 at T2 ⊢
          clear ca1 cb1 hl1 g1_0a g1_0b g1_0c g1_0d g1_1a g1_1b g1_1c g1_1d
          go_wp2_with fail
          go_roundw
          case rel => exact ⟨i + 1, by go_num, by omega, by omega, T2, by rw [← hO.out, Pl.up_go (fun x => ltInt x d1[a]!) d1 (b - 1) i hle HL.out]; exact rfl⟩
          case measure => simp [intOf]; omega
        | false =>
          have HL : Aside _ := hl
          clear hl
          obtain ⟨x2, y2, ca2, cb2, hl2⟩ := lessNF hT.out D1.out i a (by omega) (by omega) HL.out
          have g2_0a : ((i : Int)).toNat = i := by omega
          have g2_0b : (0 : Int) ≤ (i : Int) := by omega
          have g2_0c : (i : Int) < (n : Int) := by omega
          have g2_0d : IntKind.i64.wrap ((i : Int)) = (i : Int) := by rw [IntKind.wrap_i64]; omega
          have g2_1a : ((a : Int)).toNat = a := by omega
          have g2_1b : (0 : Int) ≤ (a : Int) := by omega
          have g2_1c : (a : Int) < (n : Int) := by omega
          have g2_1d : IntKind.i64.wrap ((a : Int)) = (a : Int) := by rw [IntKind.wrap_i64]; omega
          go_wp2_with fail
          go_quiet ((go_at_call 74; exact Calls.quiet_of_same (hl2.out _)))
          have T2 := aside (hT.out.drewN nq)
          generalize wr.drewN nq = w2 at T2 ⊢
          clear ca2 cb2 hl2 g2_0a g2_0b g2_0c g2_0d g2_1a g2_1b g2_1c g2_1d
          go_wp2_with fail
          go_meet
          case rel => exact ⟨i, rfl, hai, hib, T2, by rw [← hO.out, Pl.up_end (fun x => ltInt x d1[a]!) d1 (b - 1) i (.inr HL.out)]; exact rfl, fun _ => HL.out⟩
      · have gz : ¬ (i : Int) ≤ (b : Int) - 1 := by omega
        have gd : decide ((i : Int) ≤ (b : Int) - 1) = false := decide_eq_false gz
        have gn : decide (i ≤ b - 1) = false := decide_eq_false hle
        go_wp2_with fail
        go_quiet (fail)
        have TQ := aside (hT.out.drewN nq)
        generalize wr.drewN nq = wq at TQ ⊢
        go_wp2_with fail
        go_meet
        case rel => exact ⟨i, rfl, hai, hib, TQ, by rw [← hO.out, Pl.up_end (fun x => ltInt x d1[a]!) d1 (b - 1) i (.inl hle)]; exact rfl, fun h => absurd h hle⟩
  case rest =>
    obtain ⟨i, rfl, hai, hib, hTi, hIi, hFi⟩ := hcut
    clear T1
    -- the first downward scan
    go_upto_block 2 with (fail)
    go_cut [11] from 12 (fun vj wc => ∃ j : Nat, vj = .int .i64 j ∧ j < b ∧ i ≤ j + 1 ∧ Aside (TnN blk d1 w wc) ∧ Aside (j = scanDown (fun x => !ltInt x d1[a]!) d1 i (b - 1)) ∧ Aside (i ≤ j → ltInt d1[j]! d1[a]! = true))
    case first =>
      go_wp2_with fail
      go_loopw [11] (fun vj wr => ∃ j : Nat, vj = .int .i64 j ∧ j < b ∧ i ≤ j + 1 ∧ Aside (TnN blk d1 w wr) ∧ Aside (scanDown (fun x => !ltInt x d1[a]!) d1 i j = scanDown (fun x => !ltInt x d1[a]!) d1 i (b - 1))) (fun vj _ => (intOf vj).toNat)
      case atStart => exact ⟨b - 1, by congr 1; omega, by omega, by omega, hTi, rfl⟩
      case round =>
        obtain ⟨j, rfl, hjb, hij, hT, hO⟩ := hrel
        by_cases hle : i ≤ j
        · cases hl : ltInt d1[j]! d1[a]! with
          | false =>
            have HL : Aside _ := hl
            clear hl
            obtain ⟨x3, y3, ca3, cb3, hl3⟩ := lessNF hT.out D1.out j a (by omega) (by omega) HL.out
            have g3_0a : ((j : Int)).toNat = j := by omega
            have g3_0b : (0 : Int) ≤ (j : Int) := by omega
            have g3_0c : (j : Int) < (n : Int) := by omega
            have g3_0d : IntKind.i64.wrap ((j : Int)) = (j : Int) := by rw [IntKind.wrap_i64]; omega
            have g3_1a : ((a : Int)).toNat = a := by omega
            have g3_1b : (0 : Int) ≤ (a : Int) := by omega
            have g3_1c : (a : Int) < (n : Int) := by omega
            have g3_1d : IntKind.i64.wrap ((a : Int)) = (a : Int) := by rw [IntKind.wrap_i64]; omega
            go_wp2_with fail
            go_quiet ((go_at_call 74; exact Calls.quiet_of_same (hl3.out _)))
            have T2 := aside (hT.out.drewN nq)
            generalize wr.drewN nq = w2 at T2 ⊢
            clear ca3 cb3 hl3 g3_0a g3_0b g3_0c g3_0d g3_1a g3_1b g3_1c g3_1d
            go_wp2_with fail
            go_roundw
            case rel => exact ⟨j - 1, by congr 1; omega, by omega, by omega, T2, by rw [← hO.out, Pl.down_go (fun x => !ltInt x d1[a]!) d1 i j hle (by omega) (by simp only [HL.out]; rfl)]; exact rfl⟩
            case measure => simp [intOf]; omega
          | true =>
            have HL : Aside _ := hl
            clear hl
            obtain ⟨x4, y4, ca4, cb4, hl4⟩ := lessNT hT.out D1.out j a (by omega) (by omega) HL.out
            have g4_0a : ((j : Int)).toNat = j := by omega
            have g4_0b : (0 : Int) ≤ (j : Int) := by omega
            have g4_0c : (j : Int) < (n : Int) := by omega
            have g4_0d : IntKind.i64.wrap ((j : Int)) = (j : Int) := by rw [IntKind.wrap_i64]; omega
            have g4_1a : ((a : Int)).toNat = a := by omega
            have g4_1b : (0 : Int) ≤ (a : Int) := by omega
            have g4_1c : (a : Int) < (n : Int) := by omega
            have g4_1d : IntKind.i64.wrap ((a : Int)) = (a : Int) := by rw [IntKind.wrap_i64]; omega
            go_wp2_with fail
            go_quiet ((go_at_call 74; exact Calls.quiet_of_same (hl4.out _)))
            have T2 := aside (hT.out.drewN nq)
            generalize wr.drewN nq = w2 at T2 ⊢
            clear ca4 cb4 hl4 g4_0a g4_0b g4_0c g4_0d g4_1a g4_1b g4_1c g4_1d
            go_wp2_with fail
            go_meet
            case rel => exact ⟨j, rfl, hjb, hij, T2, by rw [← hO.out, Pl.down_end (fun x => !ltInt x d1[a]!) d1 i j (.inr (by simp only [HL.out]; rfl))]; exact rfl, fun _ => HL.out⟩
        · have gz : ¬ (i : Int) ≤ (j : Int) := by omega
          have gd : decide ((i : Int) ≤ (j : Int)) = false := decide_eq_false gz
          have gn : decide (i ≤ j) = false := decide_eq_false hle
          go_wp2_with fail
          go_quiet (fail)
          have TQ := aside (hT.out.drewN nq)
          generalize wr.drewN nq = wq at TQ ⊢
          go_wp2_with fail
          go_meet
          case rel => exact ⟨j, rfl, hjb, hij, TQ, by rw [← hO.out, Pl.down_end (fun x => !ltInt x d1[a]!) d1 i j (.inl hle)]; exact rfl, fun h => absurd h hle⟩
    case rest =>
      obtain ⟨j, rfl, hjb, hij, hTj, hJj, hFj⟩ := hcut
      by_cases hgt : j < i
      · have e := part_shortN E1.out hIi.out hJj.out hgt
        obtain ⟨X10, Y10, -, -, a10, b10, p10, q10, ⟨u10, e10⟩, S10⟩ := exchN hTj.out (j) (a) (by rw [D1.out]; omega) (by rw [D1.out]; omega)
        have T2 := aside (S10 1)
        clear S10
        have g10_0a : ((j : Int)).toNat = j := by omega
        have g10_0b : (0 : Int) ≤ (j : Int) := by omega
        have g10_0c : (j : Int) < (n : Int) := by omega
        have g10_0d : IntKind.i64.wrap ((j : Int)) = (j : Int) := by rw [IntKind.wrap_i64]; omega
        have g10_1a : ((a : Int)).toNat = a := by omega
        have g10_1b : (0 : Int) ≤ (a : Int) := by omega
        have g10_1c : (a : Int) < (n : Int) := by omega
        have g10_1d : IntKind.i64.wrap ((a : Int)) = (a : Int) := by rw [IntKind.wrap_i64]; omega
        go_wp2_with fail
        go_region
        clear e10 a10 b10 p10 q10 g10_0a g10_0b g10_0c g10_0d g10_1a g10_1b g10_1c g10_1d
        go_wp2_with fail
        go_ret2
        rw [← HR.out, e]
        exact ⟨rfl, T2⟩
      · have hne := Pl.stops_ne (fun x => ltInt x d1[a]!) d1 (hFi.out (by omega)) (hFj.out (by omega))
        have hlt : i < j := by omega
        have HE : Aside _ := part_longN E1.out hIi.out hJj.out (Nat.le_of_lt hlt)
        clear hne
        obtain ⟨X11, Y11, -, -, a11, b11, p11, q11, ⟨u11, e11⟩, S11⟩ := exchN hTj.out (i) (j) (by rw [D1.out]; omega) (by rw [D1.out]; omega)
        have T2 := aside (S11 1)
        clear S11
        have g11_0a : ((i : Int)).toNat = i := by omega
        have g11_0b : (0 : Int) ≤ (i : Int) := by omega
        have g11_0c : (i : Int) < (n : Int) := by omega
        have g11_0d : IntKind.i64.wrap ((i : Int)) = (i : Int) := by rw [IntKind.wrap_i64]; omega
        have g11_1a : ((j : Int)).toNat = j := by omega
        have g11_1b : (0 : Int) ≤ (j : Int) := by omega
        have g11_1c : (j : Int) < (n : Int) := by omega
        have g11_1d : IntKind.i64.wrap ((j : Int)) = (j : Int) := by rw [IntKind.wrap_i64]; omega
        go_wp2_with fail
        go_region
        clear e11 a11 b11 p11 q11 g11_0a g11_0b g11_0c g11_0d g11_1a g11_1b g11_1c g11_1d
        go_wp2_with fail
        go_loopg [10, 11] (j - 1 + 1 - (i + 1)) (fun g vi vj wr => ∃ (x y : Nat) (dk : Array Int), vi = .int .i64 x ∧ vj = .int .i64 y ∧ a < x ∧ x ≤ y + 1 ∧ y < b ∧ y + 1 - x ≤ g ∧ Aside (dk.size = n) ∧ Aside (TnN blk dk w wr) ∧ Aside (partLoop ltInt a x y dk = partLoop ltInt a (i + 1) (j - 1) (swp d1 i j)))
        case atStart => exact ⟨i + 1, j - 1, _, by go_num, by congr 1; omega, by omega, by omega, by omega, Nat.le_refl _, (size_swp _ _ _).trans D1.out, T2, rfl⟩
        case round =>
          obtain ⟨x, y, dk, rfl, rfl, hax, hxy, hyb, hg, hsk, hT, hO⟩ := hrel
          clear T2 hTj hTi hIi hJj hFi hFj
          go_upto_block 6 with (fail)
          go_cut [10] from 99 to 152 (fun vi wc => ∃ x2 : Nat, vi = .int .i64 x2 ∧ x ≤ x2 ∧ x2 ≤ y + 1 ∧ Aside (TnN blk dk w wc) ∧ Aside (x2 = scanUp (fun z => ltInt z dk[a]!) dk y x) ∧ Aside (x2 ≤ y → ltInt dk[x2]! dk[a]! = false))
          case first =>
            go_wp2_with fail
            go_loopw [10] (fun vi wr => ∃ x2 : Nat, vi = .int .i64 x2 ∧ x ≤ x2 ∧ x2 ≤ y + 1 ∧ Aside (TnN blk dk w wr) ∧ Aside (scanUp (fun z => ltInt z dk[a]!) dk y x2 = scanUp (fun z => ltInt z dk[a]!) dk y x)) (fun vi _ => y + 1 - (intOf vi).toNat)
            case atStart => exact ⟨x, rfl, Nat.le_refl _, hxy, hT, rfl⟩
            case round =>
              clear hT
              obtain ⟨x2, rfl, hxx, hxy2, hT, hP⟩ := hrel
              by_cases hle : x2 ≤ y
              · cases hl : ltInt dk[x2]! dk[a]! with
                | true =>
                  have HL : Aside _ := hl
                  clear hl
                  obtain ⟨x5, y5, ca5, cb5, hl5⟩ := lessNT hT.out hsk.out x2 a (by omega) (by omega) HL.out
                  have g5_0a : ((x2 : Int)).toNat = x2 := by omega
                  have g5_0b : (0 : Int) ≤ (x2 : Int) := by omega
                  have g5_0c : (x2 : Int) < (n : Int) := by omega
                  have g5_0d : IntKind.i64.wrap ((x2 : Int)) = (x2 : Int) := by rw [IntKind.wrap_i64]; omega
                  have g5_1a : ((a : Int)).toNat = a := by omega
                  have g5_1b : (0 : Int) ≤ (a : Int) := by omega
                  have g5_1c : (a : Int) < (n : Int) := by omega
                  have g5_1d : IntKind.i64.wrap ((a : Int)) = (a : Int) := by rw [IntKind.wrap_i64]; omega
                  go_wp2_with fail
                  go_quiet ((go_at_call 74; exact Calls.quiet_of_same (hl5.out _)))
                  have T2 := aside (hT.out.drewN nq)
                  generalize wr.drewN nq = w2 at T2 ⊢
                  clear ca5 cb5 hl5 g5_0a g5_0b g5_0c g5_0d g5_1a g5_1b g5_1c g5_1d
                  go_wp2_with fail
                  go_roundw
                  case rel => exact ⟨x2 + 1, by go_num, by omega, by omega, T2, by rw [← hP.out, Pl.up_go (fun z => ltInt z dk[a]!) dk y x2 hle HL.out]; exact rfl⟩
                  case measure => simp [intOf]; omega
                | false =>
                  have HL : Aside _ := hl
                  clear hl
                  obtain ⟨x6, y6, ca6, cb6, hl6⟩ := lessNF hT.out hsk.out x2 a (by omega) (by omega) HL.out
                  have g6_0a : ((x2 : Int)).toNat = x2 := by omega
                  have g6_0b : (0 : Int) ≤ (x2 : Int) := by omega
                  have g6_0c : (x2 : Int) < (n : Int) := by omega
                  have g6_0d : IntKind.i64.wrap ((x2 : Int)) = (x2 : Int) := by rw [IntKind.wrap_i64]; omega
                  have g6_1a : ((a : Int)).toNat = a := by omega
                  have g6_1b : (0 : Int) ≤ (a : Int) := by omega
                  have g6_1c : (a : Int) < (n : Int) := by omega
                  have g6_1d : IntKind.i64.wrap ((a : Int)) = (a : Int) := by rw [IntKind.wrap_i64]; omega
                  go_wp2_with fail
                  go_quiet ((go_at_call 74; exact Calls.quiet_of_same (hl6.out _)))
                  have T2 := aside (hT.out.drewN nq)
                  generalize wr.drewN nq = w2 at T2 ⊢
                  clear ca6 cb6 hl6 g6_0a g6_0b g6_0c g6_0d g6_1a g6_1b g6_1c g6_1d
                  go_wp2_with fail
                  go_meet
                  case rel => exact ⟨x2, rfl, hxx, hxy2, T2, by rw [← hP.out, Pl.up_end (fun z => ltInt z dk[a]!) dk y x2 (.inr HL.out)]; exact rfl, fun _ => HL.out⟩
              · have gz : ¬ (x2 : Int) ≤ (y : Int) := by omega
                have gd : decide ((x2 : Int) ≤ (y : Int)) = false := decide_eq_false gz
                have gn : decide (x2 ≤ y) = false := decide_eq_false hle
                go_wp2_with fail
                go_quiet (fail)
                have TQ := aside (hT.out.drewN nq)
                generalize wr.drewN nq = wq at TQ ⊢
                go_wp2_with fail
                go_meet
                case rel => exact ⟨x2, rfl, hxx, hxy2, TQ, by rw [← hP.out, Pl.up_end (fun z => ltInt z dk[a]!) dk y x2 (.inl hle)]; exact rfl, fun h => absurd h hle⟩
          case rest =>
            clear hT
            obtain ⟨x2, rfl, hxx, hxy2, hTi, hIi, hFi⟩ := hcut
            go_upto_block 8 with (fail)
            go_cut [11] from 99 to 152 (fun vj wc => ∃ y2 : Nat, vj = .int .i64 y2 ∧ y2 ≤ y ∧ x2 ≤ y2 + 1 ∧ Aside (TnN blk dk w wc) ∧ Aside (y2 = scanDown (fun z => !ltInt z dk[a]!) dk x2 y) ∧ Aside (x2 ≤ y2 → ltInt dk[y2]! dk[a]! = true))
            case first =>
              go_wp2_with fail
              go_loopw [11] (fun vj wr => ∃ y2 : Nat, vj = .int .i64 y2 ∧ y2 ≤ y ∧ x2 ≤ y2 + 1 ∧ Aside (TnN blk dk w wr) ∧ Aside (scanDown (fun z => !ltInt z dk[a]!) dk x2 y2 = scanDown (fun z => !ltInt z dk[a]!) dk x2 y)) (fun vj _ => (intOf vj).toNat)
              case atStart => exact ⟨y, rfl, Nat.le_refl _, hxy2, hTi, rfl⟩
              case round =>
                clear hTi
                obtain ⟨y2, rfl, hyy, hxy3, hT, hP⟩ := hrel
                by_cases hle : x2 ≤ y2
                · cases hl : ltInt dk[y2]! dk[a]! with
                  | false =>
                    have HL : Aside _ := hl
                    clear hl
                    obtain ⟨x7, y7, ca7, cb7, hl7⟩ := lessNF hT.out hsk.out y2 a (by omega) (by omega) HL.out
                    have g7_0a : ((y2 : Int)).toNat = y2 := by omega
                    have g7_0b : (0 : Int) ≤ (y2 : Int) := by omega
                    have g7_0c : (y2 : Int) < (n : Int) := by omega
                    have g7_0d : IntKind.i64.wrap ((y2 : Int)) = (y2 : Int) := by rw [IntKind.wrap_i64]; omega
                    have g7_1a : ((a : Int)).toNat = a := by omega
                    have g7_1b : (0 : Int) ≤ (a : Int) := by omega
                    have g7_1c : (a : Int) < (n : Int) := by omega
                    have g7_1d : IntKind.i64.wrap ((a : Int)) = (a : Int) := by rw [IntKind.wrap_i64]; omega
                    go_wp2_with fail
                    go_quiet ((go_at_call 74; exact Calls.quiet_of_same (hl7.out _)))
                    have T2 := aside (hT.out.drewN nq)
                    generalize wr.drewN nq = w2 at T2 ⊢
                    clear ca7 cb7 hl7 g7_0a g7_0b g7_0c g7_0d g7_1a g7_1b g7_1c g7_1d
                    go_wp2_with fail
                    go_roundw
                    case rel => exact ⟨y2 - 1, by congr 1; omega, by omega, by omega, T2, by rw [← hP.out, Pl.down_go (fun z => !ltInt z dk[a]!) dk x2 y2 hle (by omega) (by simp only [HL.out]; rfl)]; exact rfl⟩
                    case measure => simp [intOf]; omega
                  | true =>
                    have HL : Aside _ := hl
                    clear hl
                    obtain ⟨x8, y8, ca8, cb8, hl8⟩ := lessNT hT.out hsk.out y2 a (by omega) (by omega) HL.out
                    have g8_0a : ((y2 : Int)).toNat = y2 := by omega
                    have g8_0b : (0 : Int) ≤ (y2 : Int) := by omega
                    have g8_0c : (y2 : Int) < (n : Int) := by omega
                    have g8_0d : IntKind.i64.wrap ((y2 : Int)) = (y2 : Int) := by rw [IntKind.wrap_i64]; omega
                    have g8_1a : ((a : Int)).toNat = a := by omega
                    have g8_1b : (0 : Int) ≤ (a : Int) := by omega
                    have g8_1c : (a : Int) < (n : Int) := by omega
                    have g8_1d : IntKind.i64.wrap ((a : Int)) = (a : Int) := by rw [IntKind.wrap_i64]; omega
                    go_wp2_with fail
                    go_quiet ((go_at_call 74; exact Calls.quiet_of_same (hl8.out _)))
                    have T2 := aside (hT.out.drewN nq)
                    generalize wr.drewN nq = w2 at T2 ⊢
                    clear ca8 cb8 hl8 g8_0a g8_0b g8_0c g8_0d g8_1a g8_1b g8_1c g8_1d
                    go_wp2_with fail
                    go_meet
                    case rel => exact ⟨y2, rfl, hyy, hxy3, T2, by rw [← hP.out, Pl.down_end (fun z => !ltInt z dk[a]!) dk x2 y2 (.inr (by simp only [HL.out]; rfl))]; exact rfl, fun _ => HL.out⟩
                · have gz : ¬ (x2 : Int) ≤ (y2 : Int) := by omega
                  have gd : decide ((x2 : Int) ≤ (y2 : Int)) = false := decide_eq_false gz
                  have gn : decide (x2 ≤ y2) = false := decide_eq_false hle
                  go_wp2_with fail
                  go_quiet (fail)
                  have TQ := aside (hT.out.drewN nq)
                  generalize wr.drewN nq = wq at TQ ⊢
                  go_wp2_with fail
                  go_meet
                  case rel => exact ⟨y2, rfl, hyy, hxy3, TQ, by rw [← hP.out, Pl.down_end (fun z => !ltInt z dk[a]!) dk x2 y2 (.inl hle)]; exact rfl, fun h => absurd h hle⟩
            case rest =>
              clear hTi
              obtain ⟨y2, rfl, hyy, hxy3, hTj, hJj, hFj⟩ := hcut
              by_cases hgt : y2 < x2
              · have e := (hO.out.symm.trans (Pl.part_break a x y dk hIi.out hJj.out hgt))
                obtain ⟨X12, Y12, -, -, a12, b12, p12, q12, ⟨u12, e12⟩, S12⟩ := exchN hTj.out (y2) (a) (by rw [hsk.out]; omega) (by rw [hsk.out]; omega)
                have T2 := aside (S12 1)
                clear S12
                have g12_0a : ((y2 : Int)).toNat = y2 := by omega
                have g12_0b : (0 : Int) ≤ (y2 : Int) := by omega
                have g12_0c : (y2 : Int) < (n : Int) := by omega
                have g12_0d : IntKind.i64.wrap ((y2 : Int)) = (y2 : Int) := by rw [IntKind.wrap_i64]; omega
                have g12_1a : ((a : Int)).toNat = a := by omega
                have g12_1b : (0 : Int) ≤ (a : Int) := by omega
                have g12_1c : (a : Int) < (n : Int) := by omega
                have g12_1d : IntKind.i64.wrap ((a : Int)) = (a : Int) := by rw [IntKind.wrap_i64]; omega
                go_wp2_with fail
                go_region
                clear e12 a12 b12 p12 q12 g12_0a g12_0b g12_0c g12_0d g12_1a g12_1b g12_1c g12_1d
                go_wp2_with fail
                go_ret2
                rw [← HR.out, HE.out, e]
                exact ⟨rfl, T2⟩
              · have hne := Pl.stops_ne (fun z => ltInt z dk[a]!) dk (hFi.out (by omega)) (hFj.out (by omega))
                have hlt : x2 < y2 := by omega
                clear hne
                obtain ⟨X13, Y13, -, -, a13, b13, p13, q13, ⟨u13, e13⟩, S13⟩ := exchN hTj.out (x2) (y2) (by rw [hsk.out]; omega) (by rw [hsk.out]; omega)
                have T2 := aside (S13 1)
                clear S13
                have g13_0a : ((x2 : Int)).toNat = x2 := by omega
                have g13_0b : (0 : Int) ≤ (x2 : Int) := by omega
                have g13_0c : (x2 : Int) < (n : Int) := by omega
                have g13_0d : IntKind.i64.wrap ((x2 : Int)) = (x2 : Int) := by rw [IntKind.wrap_i64]; omega
                have g13_1a : ((y2 : Int)).toNat = y2 := by omega
                have g13_1b : (0 : Int) ≤ (y2 : Int) := by omega
                have g13_1c : (y2 : Int) < (n : Int) := by omega
                have g13_1d : IntKind.i64.wrap ((y2 : Int)) = (y2 : Int) := by rw [IntKind.wrap_i64]; omega
                go_wp2_with fail
                go_region
                clear e13 a13 b13 p13 q13 g13_0a g13_0b g13_0c g13_0d g13_1a g13_1b g13_1c g13_1d
                go_wp2_with fail
                go_roundg (y2 - 1 + 1 - (x2 + 1))
                case measure => omega
                case rel => exact ⟨x2 + 1, y2 - 1, _, by go_num, by congr 1; omega, by omega, by omega, by omega, Nat.le_refl _, (size_swp _ _ _).trans hsk.out, T2, by rw [← hO.out, Pl.part_go a x y dk hIi.out hJj.out (by omega)]; exact rfl⟩
end
end Go.Proofs.Ytaifmeajfldckaa
