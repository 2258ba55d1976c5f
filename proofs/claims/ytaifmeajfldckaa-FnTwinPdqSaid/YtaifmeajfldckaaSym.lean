/- sort's symMerge over an Interface value does what the plain symMerge does. Conditions: a < m < b <= n. -/
import Derived.Test.YtaifmeajfldckaaRot
import Derived.Deep.Cut
import Derived.Deep.CutRange
import Derived.Deep.CutBlock
namespace Go.Proofs.Ytaifmeajfldckaa
open Go.RowKit Go.Sort Go.Proofs

theorem bs_go {p : Nat → Bool} {i j : Nat} (h : i < j) (hp : p ((i + j) / 2) = true) : Pl.bs p ((i + j) / 2 + 1) j = Pl.bs p i j := by
  conv => rhs; rw [Pl.bs, if_pos h, if_pos hp]
theorem bs_no {p : Nat → Bool} {i j : Nat} (h : i < j) (hp : p ((i + j) / 2) = false) : Pl.bs p i ((i + j) / 2) = Pl.bs p i j := by
  conv => rhs; rw [Pl.bs, if_pos h, if_neg (by rw [hp]; decide)]
theorem bs_end {p : Nat → Bool} {i : Nat} : Pl.bs p i i = i := by
  rw [Pl.bs, if_neg (by omega)]
theorem moveUp_go {i k : Nat} {d : Array (Int × Int)} (h : k + 1 < i) : Pl.moveUp i (k + 1) (swp d k (k + 1)) = Pl.moveUp i k d := by
  conv => rhs; rw [Pl.moveUp, if_pos h]
theorem moveUp_end {i k : Nat} {d : Array (Int × Int)} (h : ¬ k + 1 < i) : Pl.moveUp i k d = d := by
  rw [Pl.moveUp, if_neg h]
theorem moveDown_go {i k : Nat} {d : Array (Int × Int)} (h : k + 1 > i) : Pl.moveDown i k (swp d (k + 1) k) = Pl.moveDown i (k + 1) d := by
  conv => rhs; rw [Pl.moveDown, if_pos h]
theorem moveDown_end {i k : Nat} {d : Array (Int × Int)} (h : ¬ k > i) : Pl.moveDown i k d = d := by
  cases k with
  | zero => rfl
  | succ k => rw [Pl.moveDown, if_neg h]
theorem moveUp_size {i : Nat} : ∀ (x k : Nat) (d : Array (Int × Int)), i - k = x → (Pl.moveUp i k d).size = d.size
  | 0, k, d, h => by rw [moveUp_end (by omega)]
  | x + 1, k, d, h => by
    by_cases c : k + 1 < i
    · rw [← moveUp_go c, moveUp_size x (k + 1) _ (by omega), size_swp]
    · rw [moveUp_end c]
theorem moveDown_size {i : Nat} : ∀ (k : Nat) (d : Array (Int × Int)), (Pl.moveDown i k d).size = d.size
  | 0, d => rfl
  | k + 1, d => by
    by_cases c : k + 1 > i
    · rw [← moveDown_go c, moveDown_size k, size_swp]
    · rw [moveDown_end c]
theorem afterRot_sz (d : Array (Int × Int)) (m s e : Nat) : (Pl.afterRot d m s e).size = d.size := by
  unfold Pl.afterRot
  split
  · exact Pl.rotate_size _ _ _ _
  · rfl
theorem symMerge_size (lt : (Int × Int) → (Int × Int) → Bool) : ∀ (f : Nat) (d : Array (Int × Int)) (a m b : Nat), (Pl.symMerge lt f d a m b).size = d.size
  | 0, _, _, _, _ => rfl
  | f + 1, d, a, m, b => by
    rw [Pl.symMerge]
    split
    · exact moveUp_size _ _ _ rfl
    · split
      · exact moveDown_size _ _
      · dsimp only
        split <;> split <;> simp only [symMerge_size lt f, afterRot_sz]

section
variable {lt : (Int × Int) → (Int × Int) → Bool} {T : TypeId} {rv : Value} {gl gs gn : Nat} {rl rs rn : Value} {blk n : Nat}

set_option maxHeartbeats 8000000 in
set_option maxRecDepth 100000 in
theorem symMerge_any (f : Nat) : ∀ (d : Array (Int × Int)) (w : World), Meth lt T rv gl gs gn rl rs rn blk n w → Tn blk d w w → d.size = n → ∀ (a m b : Nat), b - a ≤ f → a < m → m < b → b ≤ n →
    Calls Try.prog 87 #[.iface T rv, .int .i64 a, .int .i64 m, .int .i64 b] w fun e w' => e = .returned (.tuple #[]) ∧ Tn blk (Pl.symMerge lt f d a m b) w w' := by
  induction f with
  | zero => intro d w M h hs a m b hf ham hmb; omega
  | succ f ih =>
  intro d w M h hs a m b hf ham hmb hb
  have hn := M.hn
  have el := M.el
  have es := M.es
  have ml := M.ml
  have ms := M.ms
  have HM : Aside _ := M
  have H : Aside _ := h
  have HS : Aside _ := hs
  have IH : Aside _ := ih
  clear M h hs ih
  by_cases h1 : m - a = 1
  · obtain ⟨r, hr⟩ : ∃ r, Pl.symMerge lt (f + 1) d a m b = r := ⟨_, rfl⟩
    rw [hr]
    rw [Pl.symMerge, if_pos h1] at hr
    have HR := aside hr
    clear hr
    have h1' : (m : Int) - (a : Int) = 1 := by omega
    have HT0 : Aside (Tn blk d w w) := H
    go_enter Try.func87, Try.ntmps87
    go_wp2_with fail
    go_loopw [8, 9] (fun vi vj wr => ∃ i j : Nat, vi = .int .i64 i ∧ vj = .int .i64 j ∧ m ≤ i ∧ i ≤ j ∧ j ≤ b ∧ Aside (Tn blk d w wr) ∧ Aside (Pl.bs (fun h => lt d[h]! d[a]!) i j = Pl.bs (fun h => lt d[h]! d[a]!) m b)) (fun vi vj _ => (intOf vj).toNat - (intOf vi).toNat)
    case atStart => exact ⟨m, b, by first | rfl | go_num, by first | rfl | go_num, by omega, by omega, by omega, HT0, rfl⟩
    case round =>
      obtain ⟨i, j, rfl, rfl, hmi, hij, hjb, hT, hB⟩ := hrel
      have o0 := hT.out.on
      by_cases hlt : i < j
      · cases hlv : lt d[(i + j) / 2]! d[a]! with
        | true =>
          have HL : Aside ((fun h => lt d[h]! d[a]!) ((i + j) / 2) = true) := by show _ = true; simp only [hlv]; try rfl
          have HV : Aside _ := hlv
          clear hlv
          go_wp2_with fail
          refine (HM.out.lessAt hT.out HS ((i + j) / 2) (a) (by omega) (by omega) HV.out (by omega) (by omega)).mono ?_
          rintro e w1 ⟨rfl, T1, o1, -⟩
          go_wp2_with fail
          go_roundw
          case rel => exact ⟨(i + j) / 2 + 1, j, by congr 1, rfl, by omega, by omega, hjb, T1, (bs_go hlt HL.out).trans hB.out⟩
          case measure => simp [intOf]; omega
        | false =>
          have HL : Aside ((fun h => lt d[h]! d[a]!) ((i + j) / 2) = false) := by show _ = false; simp only [hlv]; try rfl
          have HV : Aside _ := hlv
          clear hlv
          go_wp2_with fail
          refine (HM.out.lessAt hT.out HS ((i + j) / 2) (a) (by omega) (by omega) HV.out (by omega) (by omega)).mono ?_
          rintro e w1 ⟨rfl, T1, o1, -⟩
          go_wp2_with fail
          go_roundw
          case rel => exact ⟨i, (i + j) / 2, rfl, by congr 1, hmi, by omega, by omega, T1, (bs_no hlt HL.out).trans hB.out⟩
          case measure => simp [intOf]; omega
      · obtain rfl : i = j := by omega
        clear hlt hij
        have hE : Aside (i = Pl.bs (fun h => lt d[h]! d[a]!) m b) := by show _ = _; rw [← hB.out, bs_end]
        go_wp2_with fail
        go_loopw [11] (fun vk wr => ∃ (k : Nat) (dk : Array (Int × Int)), vk = .int .i64 k ∧ a ≤ k ∧ k ≤ b ∧ Aside (dk.size = n) ∧ Aside (Tn blk dk w wr) ∧ Aside (Pl.moveUp i k dk = Pl.moveUp i a d)) (fun vk _ => i - (intOf vk).toNat)
        case atStart => exact ⟨a, d, rfl, Nat.le_refl _, by omega, HS, hT, rfl⟩
        case round =>
          obtain ⟨k, dk, rfl, hak, hkb, hsk, hTk, hO⟩ := hrel
          have o2 := hTk.out.on
          by_cases hk : k + 1 < i
          · have hk' : (k : Int) < (i : Int) - 1 := by omega
            go_wp2_with fail
            refine (HM.out.swapAt hTk.out hsk.out k (k + 1) (by omega) (by omega) (by omega) (by omega)).mono ?_
            rintro e w1 ⟨rfl, T1, o1, -⟩
            go_wp2_with fail
            go_roundw
            case rel => exact ⟨k + 1, _, by go_num, by omega, by omega, (size_swp _ _ _).trans hsk.out, T1, (moveUp_go hk).trans hO.out⟩
            case measure => simp [intOf]; omega
          · have hk' : ¬ (k : Int) < (i : Int) - 1 := by omega
            go_wp2_with fail
            go_returns
            exact ⟨rfl, by rw [← HR.out, ← hE.out, ← hO.out, moveUp_end hk]; exact hTk.out⟩
  · by_cases h2 : b - m = 1
    · obtain ⟨r, hr⟩ : ∃ r, Pl.symMerge lt (f + 1) d a m b = r := ⟨_, rfl⟩
      rw [hr]
      rw [Pl.symMerge, if_neg h1, if_pos h2] at hr
      have HR := aside hr
      clear hr
      have h1' : ((m : Int) - (a : Int) == 1) = false := by simp; omega
      have h2' : (b : Int) - (m : Int) = 1 := by omega
      have HT0 : Aside (Tn blk d w w) := H
      go_enter Try.func87, Try.ntmps87
      go_wp2_with fail
      go_loopw [12, 13] (fun vi vj wr => ∃ i j : Nat, vi = .int .i64 i ∧ vj = .int .i64 j ∧ a ≤ i ∧ i ≤ j ∧ j ≤ m ∧ Aside (Tn blk d w wr) ∧ Aside (Pl.bs (fun h => !lt d[m]! d[h]!) i j = Pl.bs (fun h => !lt d[m]! d[h]!) a m)) (fun vi vj _ => (intOf vj).toNat - (intOf vi).toNat)
      case atStart => exact ⟨a, m, by first | rfl | go_num, by first | rfl | go_num, by omega, by omega, by omega, HT0, rfl⟩
      case round =>
        obtain ⟨i, j, rfl, rfl, hmi, hij, hjb, hT, hB⟩ := hrel
        have o0 := hT.out.on
        by_cases hlt : i < j
        · cases hlv : lt d[m]! d[(i + j) / 2]! with
          | false =>
            have HL : Aside ((fun h => !lt d[m]! d[h]!) ((i + j) / 2) = true) := by show _ = true; simp only [hlv]; try rfl
            have HV : Aside _ := hlv
            clear hlv
            go_wp2_with fail
            refine (HM.out.lessAt hT.out HS (m) ((i + j) / 2) (by omega) (by omega) HV.out (by omega) (by omega)).mono ?_
            rintro e w1 ⟨rfl, T1, o1, -⟩
            go_wp2_with fail
            go_roundw
            case rel => exact ⟨(i + j) / 2 + 1, j, by congr 1, rfl, by omega, by omega, hjb, T1, (bs_go hlt HL.out).trans hB.out⟩
            case measure => simp [intOf]; omega
          | true =>
            have HL : Aside ((fun h => !lt d[m]! d[h]!) ((i + j) / 2) = false) := by show _ = false; simp only [hlv]; try rfl
            have HV : Aside _ := hlv
            clear hlv
            go_wp2_with fail
            refine (HM.out.lessAt hT.out HS (m) ((i + j) / 2) (by omega) (by omega) HV.out (by omega) (by omega)).mono ?_
            rintro e w1 ⟨rfl, T1, o1, -⟩
            go_wp2_with fail
            go_roundw
            case rel => exact ⟨i, (i + j) / 2, rfl, by congr 1, hmi, by omega, by omega, T1, (bs_no hlt HL.out).trans hB.out⟩
            case measure => simp [intOf]; omega
        · obtain rfl : i = j := by omega
          clear hlt hij
          have hE : Aside (i = Pl.bs (fun h => !lt d[m]! d[h]!) a m) := by show _ = _; rw [← hB.out, bs_end]
          go_wp2_with fail
          go_loopw [15] (fun vk wr => ∃ (k : Nat) (dk : Array (Int × Int)), vk = .int .i64 k ∧ i ≤ k ∧ k ≤ m ∧ Aside (dk.size = n) ∧ Aside (Tn blk dk w wr) ∧ Aside (Pl.moveDown i k dk = Pl.moveDown i m d)) (fun vk _ => (intOf vk).toNat)
          case atStart => exact ⟨m, d, rfl, by omega, Nat.le_refl _, HS, hT, rfl⟩
          case round =>
            obtain ⟨k, dk, rfl, hak, hkb, hsk, hTk, hO⟩ := hrel
            have o2 := hTk.out.on
            by_cases hk : k > i
            · obtain ⟨x, rfl⟩ : ∃ x, k = x + 1 := ⟨k - 1, by omega⟩
              go_wp2_with fail
              refine (HM.out.swapAt hTk.out hsk.out (x + 1) x (by omega) (by omega) (by omega) (by omega)).mono ?_
              rintro e w1 ⟨rfl, T1, o1, -⟩
              go_wp2_with fail
              go_roundw
              case rel => exact ⟨x, _, by first | rfl | (congr 1; done) | (congr 1; omega), by omega, by omega, (size_swp _ _ _).trans hsk.out, T1, (moveDown_go hk).trans hO.out⟩
              case measure => simp [intOf]
            · go_wp2_with fail
              go_returns
              exact ⟨rfl, by rw [← HR.out, ← hE.out, ← hO.out, moveDown_end hk]; exact hTk.out⟩
    · obtain ⟨r, hr⟩ : ∃ r, Pl.symMerge lt (f + 1) d a m b = r := ⟨_, rfl⟩
      rw [hr]
      rw [Pl.symMerge, if_neg h1, if_neg h2] at hr
      have HR := aside hr
      clear hr
      have h1' : ((m : Int) - (a : Int) == 1) = false := by simp; omega
      have h2' : ((b : Int) - (m : Int) == 1) = false := by simp; omega
      have HT0 : Aside (Tn blk d w w) := H
      go_enter Try.func87, Try.ntmps87
      go_upto_if 102 with (fail)
      go_cut [18, 19] from 100 to 108 (fun vs vr wx => ∃ i0 j0 : Nat, vs = .int .i64 i0 ∧ vr = .int .i64 j0 ∧ a ≤ i0 ∧ (a + b) / 2 + m ≤ b + i0 ∧ i0 ≤ j0 ∧ j0 ≤ m ∧ j0 ≤ (a + b) / 2 ∧ Aside (i0 = (if m > (a + b) / 2 then (a + b) / 2 + m - b else a)) ∧ Aside (j0 = (if m > (a + b) / 2 then (a + b) / 2 else m)) ∧ wx = w)
      case first =>
        by_cases hm : m > (a + b) / 2
        · have hm' : (m : Int) > ((a : Int) + (b : Int)) / 2 := by omega
          go_wp2_with fail
          go_meet
          case rel => exact ⟨(a + b) / 2 + m - b, (a + b) / 2, by congr 1; omega, by congr 1, by omega, by omega, by omega, by omega, by omega, (if_pos hm).symm, (if_pos hm).symm, by first | rfl | trivial⟩
        · have hm' : ¬ (m : Int) > ((a : Int) + (b : Int)) / 2 := by omega
          go_wp2_with fail
          go_meet
          case rel => exact ⟨a, m, rfl, rfl, by omega, by omega, by omega, by omega, by omega, (if_neg hm).symm, (if_neg hm).symm, by first | rfl | trivial⟩
      case rest =>
        obtain ⟨i0, j0, rfl, rfl, ha0, hn0, hij0, hjm0, hjq0, hi0, hj0, hwc⟩ := hcut
        obtain rfl : w = wc := hwc.symm
        go_wp2_with fail
        go_loopw [18, 19] (fun vi vj wr => ∃ i j : Nat, vi = .int .i64 i ∧ vj = .int .i64 j ∧ i0 ≤ i ∧ i ≤ j ∧ j ≤ j0 ∧ Aside (Tn blk d w wr) ∧ Aside (Pl.bs (fun c => !lt d[(a + b) / 2 + m - 1 - c]! d[c]!) i j = Pl.bs (fun c => !lt d[(a + b) / 2 + m - 1 - c]! d[c]!) i0 j0)) (fun vi vj _ => (intOf vj).toNat - (intOf vi).toNat)
        case atStart => exact ⟨i0, j0, by first | rfl | go_num, by first | rfl | go_num, by omega, by omega, by omega, HT0, rfl⟩
        case round =>
          obtain ⟨i, j, rfl, rfl, hmi, hij, hjb, hT, hB⟩ := hrel
          have o0 := hT.out.on
          by_cases hlt : i < j
          · cases hlv : lt d[(a + b) / 2 + m - 1 - (i + j) / 2]! d[(i + j) / 2]! with
            | false =>
              have HL : Aside ((fun c => !lt d[(a + b) / 2 + m - 1 - c]! d[c]!) ((i + j) / 2) = true) := by show _ = true; simp only [hlv]; try rfl
              have HV : Aside _ := hlv
              clear hlv
              go_wp2_with fail
              refine (HM.out.lessAt hT.out HS ((a + b) / 2 + m - 1 - (i + j) / 2) ((i + j) / 2) (by omega) (by omega) HV.out (by omega) (by omega)).mono ?_
              rintro e w1 ⟨rfl, T1, o1, -⟩
              go_wp2_with fail
              go_roundw
              case rel => exact ⟨(i + j) / 2 + 1, j, by congr 1, rfl, by omega, by omega, hjb, T1, (bs_go hlt HL.out).trans hB.out⟩
              case measure => simp [intOf]; omega
            | true =>
              have HL : Aside ((fun c => !lt d[(a + b) / 2 + m - 1 - c]! d[c]!) ((i + j) / 2) = false) := by show _ = false; simp only [hlv]; try rfl
              have HV : Aside _ := hlv
              clear hlv
              go_wp2_with fail
              refine (HM.out.lessAt hT.out HS ((a + b) / 2 + m - 1 - (i + j) / 2) ((i + j) / 2) (by omega) (by omega) HV.out (by omega) (by omega)).mono ?_
              rintro e w1 ⟨rfl, T1, o1, -⟩
              go_wp2_with fail
              go_roundw
              case rel => exact ⟨i, (i + j) / 2, rfl, by congr 1, hmi, by omega, by omega, T1, (bs_no hlt HL.out).trans hB.out⟩
              case measure => simp [intOf]; omega
          · obtain rfl : i = j := by omega
            clear hlt hij
            have hE : Aside (i = Pl.bs (fun c => !lt d[(a + b) / 2 + m - 1 - c]! d[c]!) i0 j0) := by show _ = _; rw [← hB.out, bs_end]
            have hs0 : Aside (i = Pl.startOf lt d a m b) := by show _ = _; unfold Pl.startOf; rw [← hi0.out, ← hj0.out]; exact hE.out
            obtain ⟨e, he⟩ : ∃ e, (a + b) / 2 + m - i = e := ⟨_, rfl⟩
            have he' : ((a : Int) + (b : Int)) / 2 + (m : Int) - (i : Int) = (e : Int) := by omega
            have heb : e ≤ b := by omega
            go_upto_region 39 with (fail)
            go_cut [140] from 133 to 139 (fun v wx => v = .bool (decide (i < m ∧ m < e)) ∧ Aside (Tn blk (d) w wx))
            case first =>
              by_cases q1 : i < m
              · have q1' : (i : Int) < (m : Int) := by omega
                by_cases q2 : m < e
                · have q2' : (m : Int) < (e : Int) := by omega
                  go_wp2_with fail
                  go_meet
                  case rel => exact ⟨by rw [decide_eq_true (And.intro q1 q2)], hT⟩
                · have q2' : ¬ (m : Int) < (e : Int) := by omega
                  go_wp2_with fail
                  go_meet
                  case rel => exact ⟨by rw [decide_eq_false (fun h => q2 h.2)], hT⟩
              · have q1' : ¬ (i : Int) < (m : Int) := by omega
                go_wp2_with fail
                go_meet
                case rel => exact ⟨by rw [decide_eq_false (fun h => q1 h.1)], hT⟩
            case rest =>
              obtain ⟨rfl, hX⟩ := hcut
              clear hT
              go_upto_if 140 with (fail)
              go_cut [140, 141] from 142 to 145 (fun _ _ wx => Aside (Tn blk (Pl.afterRot d m i e) w wx))
              case first =>
                by_cases q : i < m ∧ m < e
                · have qd : decide (i < m ∧ m < e) = true := decide_eq_true q
                  go_wp2_with fail
                  refine (rotate_at HM.out hX.out HS i m e (by omega) (by omega) (by omega) (by omega) (by omega) (by omega)).mono ?_
                  rintro e1 w1 ⟨rfl, T1, o1, -⟩
                  go_wp2_with fail
                  go_meet
                  case rel => (show Tn _ _ _ _; unfold Pl.afterRot; rw [if_pos q]; exact T1.out)
                · have qd : decide (i < m ∧ m < e) = false := decide_eq_false q
                  go_wp2_with fail
                  go_meet
                  case rel => (show Tn _ _ _ _; unfold Pl.afterRot; rw [if_neg q]; exact hX.out)
              case rest =>
                have hU := hcut
                go_upto_region 41 with (fail)
                go_cut [153] from 146 to 152 (fun v wx => v = .bool (decide (a < i ∧ i < (a + b) / 2)) ∧ Aside (Tn blk (Pl.afterRot d m i e) w wx))
                case first =>
                  by_cases q1 : a < i
                  · have q1' : (a : Int) < (i : Int) := by omega
                    by_cases q2 : i < (a + b) / 2
                    · have q2' : (i : Int) < ((a : Int) + (b : Int)) / 2 := by omega
                      go_wp2_with fail
                      go_meet
                      case rel => exact ⟨by rw [decide_eq_true (And.intro q1 q2)], hU⟩
                    · have q2' : ¬ (i : Int) < ((a : Int) + (b : Int)) / 2 := by omega
                      go_wp2_with fail
                      go_meet
                      case rel => exact ⟨by rw [decide_eq_false (fun h => q2 h.2)], hU⟩
                  · have q1' : ¬ (a : Int) < (i : Int) := by omega
                    go_wp2_with fail
                    go_meet
                    case rel => exact ⟨by rw [decide_eq_false (fun h => q1 h.1)], hU⟩
                case rest =>
                  obtain ⟨rfl, hX⟩ := hcut
                  clear hU
                  go_upto_if 153 with (fail)
                  go_cut [153, 154] from 155 to 158 (fun _ _ wx => Aside (Tn blk (if a < i ∧ i < (a + b) / 2 then Pl.symMerge lt f (Pl.afterRot d m i e) a i ((a + b) / 2) else Pl.afterRot d m i e) w wx))
                  case first =>
                    by_cases q : a < i ∧ i < (a + b) / 2
                    · have qd : decide (a < i ∧ i < (a + b) / 2) = true := decide_eq_true q
                      go_wp2_with fail
                      have hD : (Pl.afterRot d m i e).size = n := (afterRot_sz _ _ _ _).trans HS
                      have IHc := aside (post_lift (IH.out _ _ (HM.out.at_ hX.out hD) hX.out.self hD a i ((a + b) / 2) (by omega) q.1 q.2 (by omega)) hX.out (symMerge_size _ _ _ _ _ _))
                      refine IHc.out.mono ?_
                      rintro e1 w1 ⟨rfl, T1, o1, -⟩
                      go_wp2_with fail
                      go_meet
                      case rel => (show Tn _ _ _ _; rw [if_pos q]; exact T1.out)
                    · have qd : decide (a < i ∧ i < (a + b) / 2) = false := decide_eq_false q
                      go_wp2_with fail
                      go_meet
                      case rel => (show Tn _ _ _ _; rw [if_neg q]; exact hX.out)
                  case rest =>
                    have hV := hcut
                    have hD2 : Aside ((if a < i ∧ i < (a + b) / 2 then Pl.symMerge lt f (Pl.afterRot d m i e) a i ((a + b) / 2) else Pl.afterRot d m i e).size = n) := by
                      show _ = _
                      split
                      · rw [symMerge_size, afterRot_sz]; exact HS
                      · rw [afterRot_sz]; exact HS
                    have hR2 := HR.out
                    try dsimp only at hR2
                    rw [← hs0.out, he] at hR2
                    generalize (if a < i ∧ i < (a + b) / 2 then Pl.symMerge lt f (Pl.afterRot d m i e) a i ((a + b) / 2) else Pl.afterRot d m i e) = D2 at hV hD2 hR2
                    clear HR
                    have HR := aside hR2
                    clear hR2
                    go_upto_region 43 with (fail)
                    go_cut [166] from 159 to 165 (fun v wx => v = .bool (decide ((a + b) / 2 < e ∧ e < b)) ∧ Aside (Tn blk (D2) w wx))
                    case first =>
                      by_cases q1 : (a + b) / 2 < e
                      · have q1' : ((a : Int) + (b : Int)) / 2 < (e : Int) := by omega
                        by_cases q2 : e < b
                        · have q2' : (e : Int) < (b : Int) := by omega
                          go_wp2_with fail
                          go_meet
                          case rel => exact ⟨by rw [decide_eq_true (And.intro q1 q2)], hV⟩
                        · have q2' : ¬ (e : Int) < (b : Int) := by omega
                          go_wp2_with fail
                          go_meet
                          case rel => exact ⟨by rw [decide_eq_false (fun h => q2 h.2)], hV⟩
                      · have q1' : ¬ ((a : Int) + (b : Int)) / 2 < (e : Int) := by omega
                        go_wp2_with fail
                        go_meet
                        case rel => exact ⟨by rw [decide_eq_false (fun h => q1 h.1)], hV⟩
                    case rest =>
                      obtain ⟨rfl, hX⟩ := hcut
                      clear hV
                      by_cases q : (a + b) / 2 < e ∧ e < b
                      · have qd : decide ((a + b) / 2 < e ∧ e < b) = true := decide_eq_true q
                        go_wp2_with fail
                        have IHc := aside (post_lift (IH.out _ _ (HM.out.at_ hX.out hD2.out) hX.out.self hD2.out ((a + b) / 2) e b (by omega) q.1 q.2 hb) hX.out (symMerge_size _ _ _ _ _ _))
                        refine IHc.out.mono ?_
                        rintro e1 w1 ⟨rfl, T1, o1, -⟩
                        go_wp2_with fail
                        go_end0
                        exact ⟨rfl, by rw [← HR.out, if_pos q]; exact T1.out⟩
                      · have qd : decide ((a + b) / 2 < e ∧ e < b) = false := decide_eq_false q
                        go_wp2_with fail
                        go_end0
                        exact ⟨rfl, by rw [← HR.out, if_neg q]; exact hX.out⟩
theorem symMerge_at {w0 w : World} {d : Array (Int × Int)} (M : Meth lt T rv gl gs gn rl rs rn blk n w0) (h : Tn blk d w0 w) (hs : d.size = n) (f a m b : Nat) (hf : b - a ≤ f) (ham : a < m) (hmb : m < b) (hb : b ≤ n) {A B K : Int} (eA : A = a) (eB : B = m) (eK : K = b) :
    Calls Try.prog 87 #[.iface T rv, .int .i64 A, .int .i64 B, .int .i64 K] w (Post blk (Pl.symMerge lt f d a m b) w0 w (.tuple #[])) := by
  subst eA eB eK
  exact post_lift (symMerge_any f d w (M.at_ h hs) h.self hs a m b hf ham hmb hb) h (symMerge_size _ _ _ _ _ _)
end
end Go.Proofs.Ytaifmeajfldckaa
