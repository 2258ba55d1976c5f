/- sort's partitionEqual over an Interface value does what the plain one does. Conditions: a <= pivot < b <= n. -/
import Derived.Test.YtaifmeajfldckaaPart
namespace Go.Proofs.Ytaifmeajfldckaa
open Go.RowKit Go.Sort Go.Proofs

section
variable {lt : (Int × Int) → (Int × Int) → Bool} {T : TypeId} {rv : Value} {gl gs gn : Nat} {rl rs rn : Value} {blk n : Nat}

set_option maxHeartbeats 8000000 in
set_option maxRecDepth 100000 in
theorem partitionEqual_any (d : Array (Int × Int)) (w : World) (M : Meth lt T rv gl gs gn rl rs rn blk n w) (h : Tn blk d w w) (hs : d.size = n) (a b pivot : Nat) (hap : a ≤ pivot) (hpb : pivot < b) (hb : b ≤ n) :
    Calls Try.prog 104 #[.iface T rv, .int .i64 a, .int .i64 b, .int .i64 pivot] w fun e w' =>
      e = .returned (.int .i64 (partitionEqual lt d a b pivot).1) ∧ Tn blk (partitionEqual lt d a b pivot).2 w w' := by
  have hn := M.hn
  have el := M.el
  have es := M.es
  have ml := M.ml
  have ms := M.ms
  have HM : Aside _ := M
  have H : Aside _ := h
  have HS : Aside _ := hs
  have o := h.on
  clear M h hs
  have HR : Aside (partitionEqual lt d a b pivot = partEqLoop lt a (a + 1) (b - 1) (swp d a pivot)) := rfl
  generalize partitionEqual lt d a b pivot = r at HR ⊢
  go_enter Try.func104, Try.ntmps104
  go_wp2_with fail
  refine (HM.out.swapAt H.out HS.out a pivot (by omega) (by omega) (by omega) (by omega)).mono ?_
  rintro e w1 ⟨rfl, T1, o1, -⟩
  have D1 := aside ((size_swp d a pivot).trans HS.out)
  generalize swp d a pivot = d1 at T1 D1 HR
  go_wp2_with fail
  go_loopg [9, 10] (b - (a + 1)) (fun g vi vj wr => ∃ (x y : Nat) (dk : Array (Int × Int)), vi = .int .i64 x ∧ vj = .int .i64 y ∧ a < x ∧ x ≤ y + 1 ∧ y < b ∧ y + 1 - x ≤ g ∧ Aside (dk.size = n) ∧ Aside (Tn blk dk w wr) ∧ Aside (partEqLoop lt a x y dk = partEqLoop lt a (a + 1) (b - 1) d1))
  case atStart => exact ⟨a + 1, b - 1, _, by go_num, by congr 1; omega, by omega, by omega, by omega, by omega, D1, T1, rfl⟩
  case round =>
    obtain ⟨x, y, dk, rfl, rfl, hax, hxy, hyb, hg, hsk, hT, hO⟩ := hrel
    clear T1 o1 D1
    go_upto_block 2 with (fail)
    go_cut [9] from 19 to 52 (fun vi wc => ∃ x2 : Nat, vi = .int .i64 x2 ∧ x ≤ x2 ∧ x2 ≤ y + 1 ∧ Aside (Tn blk dk w wc) ∧ Aside (x2 = scanUp (fun z => !lt dk[a]! z) dk y x) ∧ Aside (x2 ≤ y → lt dk[a]! dk[x2]! = true))
    case first =>
      go_wp2_with fail
      go_loopw [9] (fun vi wr => ∃ x2 : Nat, vi = .int .i64 x2 ∧ x ≤ x2 ∧ x2 ≤ y + 1 ∧ Aside (Tn blk dk w wr) ∧ Aside (scanUp (fun z => !lt dk[a]! z) dk y x2 = scanUp (fun z => !lt dk[a]! z) dk y x)) (fun vi _ => y + 1 - (intOf vi).toNat)
      case atStart => exact ⟨x, rfl, Nat.le_refl _, hxy, hT, rfl⟩
      case round =>
        clear hT
        obtain ⟨x2, rfl, hxx, hxy2, hT, hP⟩ := hrel
        have oo := hT.out.on
        by_cases hle : x2 ≤ y
        · cases hl : lt dk[a]! dk[x2]! with
          | false =>
            have HL : Aside _ := hl
            clear hl
            go_wp2_with fail
            refine (HM.out.lessAt hT.out hsk.out a x2 (by omega) (by omega) HL.out (by omega) (by omega)).mono ?_
            rintro e w2 ⟨rfl, T2, o2, -⟩
            go_wp2_with fail
            go_roundw
            case rel => exact ⟨x2 + 1, by go_num, by omega, by omega, T2, by rw [← hP.out, Pl.up_go (fun z => !lt dk[a]! z) dk y x2 hle (by simp only [HL.out]; rfl)]; exact rfl⟩
            case measure => simp [intOf]; omega
          | true =>
            have HL : Aside _ := hl
            clear hl
            go_wp2_with fail
            refine (HM.out.lessAt hT.out hsk.out a x2 (by omega) (by omega) HL.out (by omega) (by omega)).mono ?_
            rintro e w2 ⟨rfl, T2, o2, -⟩
            go_wp2_with fail
            go_meet
            case rel => exact ⟨x2, rfl, hxx, hxy2, T2, by rw [← hP.out, Pl.up_end (fun z => !lt dk[a]! z) dk y x2 (.inr (by simp only [HL.out]; rfl))]; exact rfl, fun _ => HL.out⟩
        · go_wp2_with fail
          go_meet
          case rel => exact ⟨x2, rfl, hxx, hxy2, hT, by rw [← hP.out, Pl.up_end (fun z => !lt dk[a]! z) dk y x2 (.inl hle)]; exact rfl, fun h => absurd h hle⟩
    case rest =>
      clear hT
      obtain ⟨x2, rfl, hxx, hxy2, hTi, hIi, hFi⟩ := hcut
      go_upto_block 4 with (fail)
      go_cut [10] from 19 to 52 (fun vj wc => ∃ y2 : Nat, vj = .int .i64 y2 ∧ y2 ≤ y ∧ x2 ≤ y2 + 1 ∧ Aside (Tn blk dk w wc) ∧ Aside (y2 = scanDown (fun z => lt dk[a]! z) dk x2 y) ∧ Aside (x2 ≤ y2 → lt dk[a]! dk[y2]! = false))
      case first =>
        go_wp2_with fail
        go_loopw [10] (fun vj wr => ∃ y2 : Nat, vj = .int .i64 y2 ∧ y2 ≤ y ∧ x2 ≤ y2 + 1 ∧ Aside (Tn blk dk w wr) ∧ Aside (scanDown (fun z => lt dk[a]! z) dk x2 y2 = scanDown (fun z => lt dk[a]! z) dk x2 y)) (fun vj _ => (intOf vj).toNat)
        case atStart => exact ⟨y, rfl, Nat.le_refl _, hxy2, hTi, rfl⟩
        case round =>
          clear hTi
          obtain ⟨y2, rfl, hyy, hxy3, hT, hP⟩ := hrel
          have oo := hT.out.on
          by_cases hle : x2 ≤ y2
          · cases hl : lt dk[a]! dk[y2]! with
            | true =>
              have HL : Aside _ := hl
              clear hl
              go_wp2_with fail
              refine (HM.out.lessAt hT.out hsk.out a y2 (by omega) (by omega) HL.out (by omega) (by omega)).mono ?_
              rintro e w2 ⟨rfl, T2, o2, -⟩
              go_wp2_with fail
              go_roundw
              case rel => exact ⟨y2 - 1, by congr 1; omega, by omega, by omega, T2, by rw [← hP.out, Pl.down_go (fun z => lt dk[a]! z) dk x2 y2 hle (by omega) HL.out]; exact rfl⟩
              case measure => simp [intOf]; omega
            | false =>
              have HL : Aside _ := hl
              clear hl
              go_wp2_with fail
              refine (HM.out.lessAt hT.out hsk.out a y2 (by omega) (by omega) HL.out (by omega) (by omega)).mono ?_
              rintro e w2 ⟨rfl, T2, o2, -⟩
              go_wp2_with fail
              go_meet
              case rel => exact ⟨y2, rfl, hyy, hxy3, T2, by rw [← hP.out, Pl.down_end (fun z => lt dk[a]! z) dk x2 y2 (.inr HL.out)]; exact rfl, fun _ => HL.out⟩
          · go_wp2_with fail
            go_meet
            case rel => exact ⟨y2, rfl, hyy, hxy3, hT, by rw [← hP.out, Pl.down_end (fun z => lt dk[a]! z) dk x2 y2 (.inl hle)]; exact rfl, fun h => absurd h hle⟩
      case rest =>
        clear hTi
        obtain ⟨y2, rfl, hyy, hxy3, hTj, hJj, hFj⟩ := hcut
        have oo := hTj.out.on
        by_cases hgt : y2 < x2
        · have e := hO.out.symm.trans (Pl.partEq_break a x y dk hIi.out hJj.out hgt)
          have HE := aside e
          have TF := hTj
          clear e
          go_wp2_with fail
          go_ret
          rw [HR.out, HE.out]
          exact ⟨rfl, TF.out⟩
        · have hne : x2 ≠ y2 := by
            rintro rfl
            have h1 := hFi.out (by omega)
            have h2 := hFj.out (by omega)
            rw [h1] at h2; cases h2
          have hlt : x2 < y2 := by omega
          clear hne
          go_wp2_with fail
          refine (HM.out.swapAt hTj.out hsk.out x2 y2 (by omega) (by omega) (by omega) (by omega)).mono ?_
          rintro e w2 ⟨rfl, T2, o2, -⟩
          go_wp2_with fail
          go_roundg (y2 - 1 + 1 - (x2 + 1))
          case measure => omega
          case rel => exact ⟨x2 + 1, y2 - 1, _, by go_num, by congr 1; omega, by omega, by omega, by omega, Nat.le_refl _, (size_swp _ _ _).trans hsk.out, T2, by rw [← hO.out, Pl.partEq_go a x y dk hIi.out hJj.out (by omega)]; exact rfl⟩
theorem partitionEqual_at {w0 w : World} {d : Array (Int × Int)} (M : Meth lt T rv gl gs gn rl rs rn blk n w0) (h : Tn blk d w0 w) (hs : d.size = n) (a b pivot : Nat) (hap : a ≤ pivot) (hpb : pivot < b) (hb : b ≤ n) {A B K : Int} (eA : A = a) (eB : B = b) (eK : K = pivot) :
    Calls Try.prog 104 #[.iface T rv, .int .i64 A, .int .i64 B, .int .i64 K] w (Post blk (partitionEqual lt d a b pivot).2 w0 w (.int .i64 (partitionEqual lt d a b pivot).1)) := by
  subst eA eB eK
  exact post_lift (partitionEqual_any d w (M.at_ h hs) h.self hs a b pivot hap hpb hb) h (Pl.partitionEqual_size _ _ _ _)
end
end Go.Proofs.Ytaifmeajfldckaa
