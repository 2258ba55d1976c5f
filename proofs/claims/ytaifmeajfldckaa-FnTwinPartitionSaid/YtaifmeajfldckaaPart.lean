/- sort's partition over an Interface value does what the plain partition does. Conditions: a <= pivot < b <= n. -/
import Derived.Test.YtaifmeajfldckaaMeth
import Derived.Test.YtaifmeajfldckaaPlain2
import Derived.Deep.Cut
import Derived.Deep.CutRange
import Derived.Deep.CutBlock
namespace Go.Proofs.Ytaifmeajfldckaa
open Go.RowKit Go.Sort Go.Proofs

section
variable {lt : (Int × Int) → (Int × Int) → Bool} {T : TypeId} {rv : Value} {gl gs gn : Nat} {rl rs rn : Value} {blk n : Nat}

theorem part_short {d d1 : Array (Int × Int)} {a b pivot i j : Nat} (hd : swp d a pivot = d1) (hi : i = scanUp (fun x => lt x d1[a]!) d1 (b - 1) (a + 1)) (hj : j = scanDown (fun x => !lt x d1[a]!) d1 i (b - 1)) (h : j < i) :
    partition lt d a b pivot = (j, true, swp d1 j a) := by
  subst hd
  unfold partition
  dsimp only
  rw [← hi, ← hj, if_pos h]
theorem part_long {d d1 : Array (Int × Int)} {a b pivot i j : Nat} (hd : swp d a pivot = d1) (hi : i = scanUp (fun x => lt x d1[a]!) d1 (b - 1) (a + 1)) (hj : j = scanDown (fun x => !lt x d1[a]!) d1 i (b - 1)) (h : i ≤ j) :
    partition lt d a b pivot = ((partLoop lt a (i + 1) (j - 1) (swp d1 i j)).1, false, swp (partLoop lt a (i + 1) (j - 1) (swp d1 i j)).2 (partLoop lt a (i + 1) (j - 1) (swp d1 i j)).1 a) := by
  subst hd
  unfold partition
  dsimp only
  rw [← hi, ← hj, if_neg (by omega)]

set_option maxHeartbeats 8000000 in
set_option maxRecDepth 100000 in
theorem partition_any (d : Array (Int × Int)) (w : World) (M : Meth lt T rv gl gs gn rl rs rn blk n w) (h : Tn blk d w w) (hs : d.size = n) (a b pivot : Nat) (hap : a ≤ pivot) (hpb : pivot < b) (hb : b ≤ n) :
    Calls Try.prog 78 #[.iface T rv, .int .i64 a, .int .i64 b, .int .i64 pivot] w fun e w' =>
      e = .returned (.tuple #[.int .i64 (partition lt d a b pivot).1, .bool (partition lt d a b pivot).2.1]) ∧ Tn blk (partition lt d a b pivot).2.2 w w' := by
  have hn := M.hn
  have el := M.el
  have es := M.es
  have ml := M.ml
  have ms := M.ms
  have HM : Aside _ := M
  have H : Aside _ := h
  have HS : Aside _ := hs
  have o := h.on
  clear M h hs
  obtain ⟨r, hr⟩ : ∃ r, partition lt d a b pivot = r := ⟨_, rfl⟩
  rw [hr]
  have HR : Aside _ := hr
  clear hr
  obtain ⟨d1, hd1⟩ : ∃ d1, swp d a pivot = d1 := ⟨_, rfl⟩
  have D1 : Aside (d1.size = n) := by rw [← hd1]; exact (size_swp _ _ _).trans HS.out
  have E1 : Aside _ := hd1
  clear hd1
  go_enter Try.func78, Try.ntmps78
  go_wp2_with fail
  refine (HM.out.swapAt H.out HS.out a pivot (by omega) (by omega) (by omega) (by omega)).mono ?_
  rw [E1.out]
  rintro e w1 ⟨rfl, T1, o1, -⟩
  -- the first upward scan
  go_upto_block 0 with (fail)
  go_cut [10] from 12 (fun vi wc => ∃ i : Nat, vi = .int .i64 i ∧ a < i ∧ i ≤ b ∧ Aside (Tn blk d1 w wc) ∧ Aside (i = scanUp (fun x => lt x d1[a]!) d1 (b - 1) (a + 1)) ∧ Aside (i ≤ b - 1 → lt d1[i]! d1[a]! = false))
  case first =>
    go_wp2_with fail
    go_loopw [10] (fun vi wr => ∃ i : Nat, vi = .int .i64 i ∧ a < i ∧ i ≤ b ∧ Aside (Tn blk d1 w wr) ∧ Aside (scanUp (fun x => lt x d1[a]!) d1 (b - 1) i = scanUp (fun x => lt x d1[a]!) d1 (b - 1) (a + 1))) (fun vi _ => b - (intOf vi).toNat)
    case atStart => exact ⟨a + 1, by go_num, by omega, by omega, T1, rfl⟩
    case round =>
      obtain ⟨i, rfl, hai, hib, hT, hO⟩ := hrel
      have oo := hT.out.on
      by_cases hle : i ≤ b - 1
      · have hle' : (i : Int) ≤ (b : Int) - 1 := by omega
        cases hl : lt d1[i]! d1[a]! with
        | true =>
          have HL : Aside _ := hl
          clear hl
          go_wp2_with fail
          refine (HM.out.lessAt hT.out D1.out i a (by omega) (by omega) HL.out (by omega) (by omega)).mono ?_
          rintro e w2 ⟨rfl, T2, o2, -⟩
          go_wp2_with fail
          go_roundw
          case rel => exact ⟨i + 1, by go_num, by omega, by omega, T2, by rw [← hO.out, Pl.up_go (fun x => lt x d1[a]!) d1 (b - 1) i hle HL.out]; exact rfl⟩
          case measure => simp [intOf]; omega
        | false =>
          have HL : Aside _ := hl
          clear hl
          go_wp2_with fail
          refine (HM.out.lessAt hT.out D1.out i a (by omega) (by omega) HL.out (by omega) (by omega)).mono ?_
          rintro e w2 ⟨rfl, T2, o2, -⟩
          go_wp2_with fail
          go_meet
          case rel => exact ⟨i, rfl, hai, hib, T2, by rw [← hO.out, Pl.up_end (fun x => lt x d1[a]!) d1 (b - 1) i (.inr HL.out)]; exact rfl, fun _ => HL.out⟩
      · have hle' : ¬ (i : Int) ≤ (b : Int) - 1 := by omega
        go_wp2_with fail
        go_meet
        case rel => exact ⟨i, rfl, hai, hib, hT, by rw [← hO.out, Pl.up_end (fun x => lt x d1[a]!) d1 (b - 1) i (.inl hle)]; exact rfl, fun h => absurd h hle⟩
  case rest =>
    obtain ⟨i, rfl, hai, hib, hTi, hIi, hFi⟩ := hcut
    clear T1 o1
    -- the first downward scan
    go_upto_block 2 with (fail)
    go_cut [11] from 12 (fun vj wc => ∃ j : Nat, vj = .int .i64 j ∧ j < b ∧ i ≤ j + 1 ∧ Aside (Tn blk d1 w wc) ∧ Aside (j = scanDown (fun x => !lt x d1[a]!) d1 i (b - 1)) ∧ Aside (i ≤ j → lt d1[j]! d1[a]! = true))
    case first =>
      go_wp2_with fail
      go_loopw [11] (fun vj wr => ∃ j : Nat, vj = .int .i64 j ∧ j < b ∧ i ≤ j + 1 ∧ Aside (Tn blk d1 w wr) ∧ Aside (scanDown (fun x => !lt x d1[a]!) d1 i j = scanDown (fun x => !lt x d1[a]!) d1 i (b - 1))) (fun vj _ => (intOf vj).toNat)
      case atStart => exact ⟨b - 1, by congr 1; omega, by omega, by omega, hTi, rfl⟩
      case round =>
        obtain ⟨j, rfl, hjb, hij, hT, hO⟩ := hrel
        have oo := hT.out.on
        by_cases hle : i ≤ j
        · cases hl : lt d1[j]! d1[a]! with
          | false =>
            have HL : Aside _ := hl
            clear hl
            go_wp2_with fail
            refine (HM.out.lessAt hT.out D1.out j a (by omega) (by omega) HL.out (by omega) (by omega)).mono ?_
            rintro e w2 ⟨rfl, T2, o2, -⟩
            go_wp2_with fail
            go_roundw
            case rel => exact ⟨j - 1, by congr 1; omega, by omega, by omega, T2, by rw [← hO.out, Pl.down_go (fun x => !lt x d1[a]!) d1 i j hle (by omega) (by simp only [HL.out]; rfl)]; exact rfl⟩
            case measure => simp [intOf]; omega
          | true =>
            have HL : Aside _ := hl
            clear hl
            go_wp2_with fail
            refine (HM.out.lessAt hT.out D1.out j a (by omega) (by omega) HL.out (by omega) (by omega)).mono ?_
            rintro e w2 ⟨rfl, T2, o2, -⟩
            go_wp2_with fail
            go_meet
            case rel => exact ⟨j, rfl, hjb, hij, T2, by rw [← hO.out, Pl.down_end (fun x => !lt x d1[a]!) d1 i j (.inr (by simp only [HL.out]; rfl))]; exact rfl, fun _ => HL.out⟩
        · go_wp2_with fail
          go_meet
          case rel => exact ⟨j, rfl, hjb, hij, hT, by rw [← hO.out, Pl.down_end (fun x => !lt x d1[a]!) d1 i j (.inl hle)]; exact rfl, fun h => absurd h hle⟩
    case rest =>
      obtain ⟨j, rfl, hjb, hij, hTj, hJj, hFj⟩ := hcut
      have oo := hTj.out.on
      by_cases hgt : j < i
      · have e := part_short E1.out hIi.out hJj.out hgt
        go_wp2_with fail
        refine (HM.out.swapAt hTj.out D1.out j a (by omega) (by omega) (by omega) (by omega)).mono ?_
        rintro e w2 ⟨rfl, T2, o2, -⟩
        go_wp2_with fail
        go_ret2
        rw [← HR.out, e]
        exact ⟨rfl, T2⟩
      · have hne := Pl.stops_ne (fun x => lt x d1[a]!) d1 (hFi.out (by omega)) (hFj.out (by omega))
        have hlt : i < j := by omega
        have HE : Aside _ := part_long E1.out hIi.out hJj.out (Nat.le_of_lt hlt)
        clear hne
        go_wp2_with fail
        refine (HM.out.swapAt hTj.out D1.out i j (by omega) (by omega) (by omega) (by omega)).mono ?_
        rintro e w2 ⟨rfl, T2, o2, -⟩
        go_wp2_with fail
        go_loopg [10, 11] (j - 1 + 1 - (i + 1)) (fun g vi vj wr => ∃ (x y : Nat) (dk : Array (Int × Int)), vi = .int .i64 x ∧ vj = .int .i64 y ∧ a < x ∧ x ≤ y + 1 ∧ y < b ∧ y + 1 - x ≤ g ∧ Aside (dk.size = n) ∧ Aside (Tn blk dk w wr) ∧ Aside (partLoop lt a x y dk = partLoop lt a (i + 1) (j - 1) (swp d1 i j)))
        case atStart => exact ⟨i + 1, j - 1, _, by go_num, by congr 1; omega, by omega, by omega, by omega, Nat.le_refl _, (size_swp _ _ _).trans D1.out, T2, rfl⟩
        case round =>
          obtain ⟨x, y, dk, rfl, rfl, hax, hxy, hyb, hg, hsk, hT, hO⟩ := hrel
          clear T2 o2 hTj hTi oo hIi hJj hFi hFj
          go_upto_block 6 with (fail)
          go_cut [10] from 59 to 92 (fun vi wc => ∃ x2 : Nat, vi = .int .i64 x2 ∧ x ≤ x2 ∧ x2 ≤ y + 1 ∧ Aside (Tn blk dk w wc) ∧ Aside (x2 = scanUp (fun z => lt z dk[a]!) dk y x) ∧ Aside (x2 ≤ y → lt dk[x2]! dk[a]! = false))
          case first =>
            go_wp2_with fail
            go_loopw [10] (fun vi wr => ∃ x2 : Nat, vi = .int .i64 x2 ∧ x ≤ x2 ∧ x2 ≤ y + 1 ∧ Aside (Tn blk dk w wr) ∧ Aside (scanUp (fun z => lt z dk[a]!) dk y x2 = scanUp (fun z => lt z dk[a]!) dk y x)) (fun vi _ => y + 1 - (intOf vi).toNat)
            case atStart => exact ⟨x, rfl, Nat.le_refl _, hxy, hT, rfl⟩
            case round =>
              clear hT
              obtain ⟨x2, rfl, hxx, hxy2, hT, hP⟩ := hrel
              have oo := hT.out.on
              by_cases hle : x2 ≤ y
              · cases hl : lt dk[x2]! dk[a]! with
                | true =>
                  have HL : Aside _ := hl
                  clear hl
                  go_wp2_with fail
                  refine (HM.out.lessAt hT.out hsk.out x2 a (by omega) (by omega) HL.out (by omega) (by omega)).mono ?_
                  rintro e w2 ⟨rfl, T2, o2, -⟩
                  go_wp2_with fail
                  go_roundw
                  case rel => exact ⟨x2 + 1, by go_num, by omega, by omega, T2, by rw [← hP.out, Pl.up_go (fun z => lt z dk[a]!) dk y x2 hle HL.out]; exact rfl⟩
                  case measure => simp [intOf]; omega
                | false =>
                  have HL : Aside _ := hl
                  clear hl
                  go_wp2_with fail
                  refine (HM.out.lessAt hT.out hsk.out x2 a (by omega) (by omega) HL.out (by omega) (by omega)).mono ?_
                  rintro e w2 ⟨rfl, T2, o2, -⟩
                  go_wp2_with fail
                  go_meet
                  case rel => exact ⟨x2, rfl, hxx, hxy2, T2, by rw [← hP.out, Pl.up_end (fun z => lt z dk[a]!) dk y x2 (.inr HL.out)]; exact rfl, fun _ => HL.out⟩
              · go_wp2_with fail
                go_meet
                case rel => exact ⟨x2, rfl, hxx, hxy2, hT, by rw [← hP.out, Pl.up_end (fun z => lt z dk[a]!) dk y x2 (.inl hle)]; exact rfl, fun h => absurd h hle⟩
          case rest =>
            clear hT
            obtain ⟨x2, rfl, hxx, hxy2, hTi, hIi, hFi⟩ := hcut
            go_upto_block 8 with (fail)
            go_cut [11] from 59 to 92 (fun vj wc => ∃ y2 : Nat, vj = .int .i64 y2 ∧ y2 ≤ y ∧ x2 ≤ y2 + 1 ∧ Aside (Tn blk dk w wc) ∧ Aside (y2 = scanDown (fun z => !lt z dk[a]!) dk x2 y) ∧ Aside (x2 ≤ y2 → lt dk[y2]! dk[a]! = true))
            case first =>
              go_wp2_with fail
              go_loopw [11] (fun vj wr => ∃ y2 : Nat, vj = .int .i64 y2 ∧ y2 ≤ y ∧ x2 ≤ y2 + 1 ∧ Aside (Tn blk dk w wr) ∧ Aside (scanDown (fun z => !lt z dk[a]!) dk x2 y2 = scanDown (fun z => !lt z dk[a]!) dk x2 y)) (fun vj _ => (intOf vj).toNat)
              case atStart => exact ⟨y, rfl, Nat.le_refl _, hxy2, hTi, rfl⟩
              case round =>
                clear hTi
                obtain ⟨y2, rfl, hyy, hxy3, hT, hP⟩ := hrel
                have oo := hT.out.on
                by_cases hle : x2 ≤ y2
                · cases hl : lt dk[y2]! dk[a]! with
                  | false =>
                    have HL : Aside _ := hl
                    clear hl
                    go_wp2_with fail
                    refine (HM.out.lessAt hT.out hsk.out y2 a (by omega) (by omega) HL.out (by omega) (by omega)).mono ?_
                    rintro e w2 ⟨rfl, T2, o2, -⟩
                    go_wp2_with fail
                    go_roundw
                    case rel => exact ⟨y2 - 1, by congr 1; omega, by omega, by omega, T2, by rw [← hP.out, Pl.down_go (fun z => !lt z dk[a]!) dk x2 y2 hle (by omega) (by simp only [HL.out]; rfl)]; exact rfl⟩
                    case measure => simp [intOf]; omega
                  | true =>
                    have HL : Aside _ := hl
                    clear hl
                    go_wp2_with fail
                    refine (HM.out.lessAt hT.out hsk.out y2 a (by omega) (by omega) HL.out (by omega) (by omega)).mono ?_
                    rintro e w2 ⟨rfl, T2, o2, -⟩
                    go_wp2_with fail
                    go_meet
                    case rel => exact ⟨y2, rfl, hyy, hxy3, T2, by rw [← hP.out, Pl.down_end (fun z => !lt z dk[a]!) dk x2 y2 (.inr (by simp only [HL.out]; rfl))]; exact rfl, fun _ => HL.out⟩
                · go_wp2_with fail
                  go_meet
                  case rel => exact ⟨y2, rfl, hyy, hxy3, hT, by rw [← hP.out, Pl.down_end (fun z => !lt z dk[a]!) dk x2 y2 (.inl hle)]; exact rfl, fun h => absurd h hle⟩
            case rest =>
              clear hTi
              obtain ⟨y2, rfl, hyy, hxy3, hTj, hJj, hFj⟩ := hcut
              have oo := hTj.out.on
              by_cases hgt : y2 < x2
              · have e := (hO.out.symm.trans (Pl.part_break a x y dk hIi.out hJj.out hgt))
                go_wp2_with fail
                refine (HM.out.swapAt hTj.out hsk.out y2 a (by omega) (by omega) (by omega) (by omega)).mono ?_
                rintro e w2 ⟨rfl, T2, o2, -⟩
                go_wp2_with fail
                go_ret2
                rw [← HR.out, HE.out, e]
                exact ⟨rfl, T2⟩
              · have hne := Pl.stops_ne (fun z => lt z dk[a]!) dk (hFi.out (by omega)) (hFj.out (by omega))
                have hlt : x2 < y2 := by omega
                clear hne
                go_wp2_with fail
                refine (HM.out.swapAt hTj.out hsk.out x2 y2 (by omega) (by omega) (by omega) (by omega)).mono ?_
                rintro e w2 ⟨rfl, T2, o2, -⟩
                go_wp2_with fail
                go_roundg (y2 - 1 + 1 - (x2 + 1))
                case measure => omega
                case rel => exact ⟨x2 + 1, y2 - 1, _, by go_num, by congr 1; omega, by omega, by omega, by omega, Nat.le_refl _, (size_swp _ _ _).trans hsk.out, T2, by rw [← hO.out, Pl.part_go a x y dk hIi.out hJj.out (by omega)]; exact rfl⟩
theorem partition_at {w0 w : World} {d : Array (Int × Int)} (M : Meth lt T rv gl gs gn rl rs rn blk n w0) (h : Tn blk d w0 w) (hs : d.size = n) (a b pivot : Nat) (hap : a ≤ pivot) (hpb : pivot < b) (hb : b ≤ n) {A B K : Int} (eA : A = a) (eB : B = b) (eK : K = pivot) :
    Calls Try.prog 78 #[.iface T rv, .int .i64 A, .int .i64 B, .int .i64 K] w (Post blk (partition lt d a b pivot).2.2 w0 w (.tuple #[.int .i64 (partition lt d a b pivot).1, .bool (partition lt d a b pivot).2.1])) := by
  subst eA eB eK
  exact post_lift (partition_any d w (M.at_ h hs) h.self hs a b pivot hap hpb hb) h (Pl.partition_size _ _ _ _)
end
end Go.Proofs.Ytaifmeajfldckaa
