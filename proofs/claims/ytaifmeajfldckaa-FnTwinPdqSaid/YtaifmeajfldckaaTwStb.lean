/- slices' stableCmpFunc of items by keys does what the plain stable does. Condition: at most 4096 items, one at least. -/
import Derived.Test.YtaifmeajfldckaaTwSym
import Derived.Test.YtaifmeajfldckaaStb
namespace Go.Proofs.Ytaifmeajfldckaa
open Go.RowKit Go.Sort Go.Proofs

section
variable {blk n c1 : Nat}
theorem tins_at {w0 w : World} {d : Array (Int × Int)} (h : Tn blk d w0 w) (hs : d.size = n) (hn : n ≤ 4096) (a b : Nat) (hab : a ≤ b) (hb : b ≤ n) {A B : Int} (eA : A = a) (eB : B = b) :
    Calls Try.prog 81 #[.slice (some ⟨blk, 0, none⟩) n c1, .int .i64 A, .int .i64 B, .func (.func 82) #[] #[]] w (TPost blk (insertionSort ltK d a b) w0 w (.tuple #[])) := by
  subst eA eB
  exact tpost (insCmp_any blk n c1 d w h.self hs hn a b hab hb) h (ins_size _ _ _ _)

set_option maxHeartbeats 8000000 in
set_option maxRecDepth 100000 in
theorem tstable_any (d : Array (Int × Int)) (w : World) (h : Tn blk d w w) (hs : d.size = n) (hn : n ≤ 4096) :
    Calls Try.prog 91 #[.slice (some ⟨blk, 0, none⟩) n c1, .int .i64 n, .func (.func 82) #[] #[]] w fun e w' => e = .returned (.tuple #[]) ∧ Tn blk (Pl.stable ltK d n) w w' := by
  have H : Aside _ := h
  have HS : Aside _ := hs
  clear h hs
  go_enter Try.func91, Try.ntmps91
  go_wp2_with fail
  go_loopw [7, 8] (fun va vb wr => ∃ (a b : Nat) (dk : Array (Int × Int)), va = .int .i64 a ∧ vb = .int .i64 b ∧ b = a + 20 ∧ a ≤ n ∧ Aside (dk.size = n) ∧ Aside (Tn blk dk w wr) ∧ Aside (Pl.insBlocks ltK n a b dk = Pl.insBlocks ltK n 0 20 d)) (fun _ vb _ => n + 20 - (intOf vb).toNat)
  case atStart => exact ⟨0, 20, d, rfl, rfl, rfl, Nat.zero_le _, HS, H, rfl⟩
  case round =>
    obtain ⟨a, b, dk, rfl, rfl, hba, han, hsk, hT, hO⟩ := hrel
    by_cases hbn : b ≤ n
    · go_wp2_with fail
      refine (tins_at hT.out hsk.out hn a b (by omega) hbn (by omega) (by omega)).mono ?_
      rintro e w1 ⟨rfl, T1, -⟩
      go_wp2_with fail
      go_roundw
      case rel => exact ⟨b, b + 20, _, by first | rfl | (congr 1; omega), by first | rfl | (congr 1; omega), rfl, hbn, (ins_size _ _ _ _).trans hsk.out, T1, (insBlocks_go hbn).trans hO.out⟩
      case measure => simp [intOf]; omega
    · go_wp2_with fail
      refine (tins_at hT.out hsk.out hn a n han (Nat.le_refl _) (by omega) (by omega)).mono ?_
      rintro e w1 ⟨rfl, T1, -⟩
      have hD : Aside ((Pl.insBlocks ltK n 0 20 d).size = n) := (insBlocks_size _ _ _ _ (Nat.le_refl _)).trans HS
      rw [← insBlocks_end (lt := ltK) (b := b) hbn, hO.out] at T1
      have HR : Aside (Pl.mergeAll ltK n 20 (Pl.insBlocks ltK n 0 20 d) = Pl.stable ltK d n) := rfl
      generalize Pl.insBlocks ltK n 0 20 d = D at T1 hD HR
      clear hT hsk hO
      go_wp2_with fail
      go_loopw [6] (fun vs wr2 => ∃ (s : Nat) (dk : Array (Int × Int)), vs = .int .i64 s ∧ 0 < s ∧ s ≤ 2 * n + 20 ∧ Aside (dk.size = n) ∧ Aside (Tn blk dk w wr2) ∧ Aside (Pl.mergeAll ltK n s dk = Pl.mergeAll ltK n 20 D)) (fun vs _ => n - (intOf vs).toNat)
      case atStart => exact ⟨20, D, rfl, by omega, by omega, hD, T1, rfl⟩
      case round =>
        obtain ⟨s, dk, rfl, hs0, hsn, hsk, hT, hO⟩ := hrel
        by_cases hsl : s < n
        · go_wp2_with fail
          go_loopw [7, 8] (fun va vb wr3 => ∃ (a b : Nat) (dj : Array (Int × Int)), va = .int .i64 a ∧ vb = .int .i64 b ∧ b = a + 2 * s ∧ a ≤ n ∧ Aside (dj.size = n) ∧ Aside (Tn blk dj w wr3) ∧ Aside (Pl.mergeRow ltK n s a b dj = Pl.mergeRow ltK n s 0 (2 * s) dk)) (fun _ vb _ => n + 2 * s - (intOf vb).toNat)
          case atStart => exact ⟨0, 2 * s, dk, rfl, by go_num, by omega, Nat.zero_le _, hsk, hT, rfl⟩
          case round =>
            obtain ⟨a, b, dj, rfl, rfl, hba, han, hsj, hTj, hP⟩ := hrel
            by_cases hbn : b ≤ n
            · go_wp2_with fail
              refine (tsym_at hTj.out hsj.out hn (2 * s) a (a + s) b (by omega) (by omega) (by omega) hbn (by omega) (by omega) (by omega)).mono ?_
              rintro e w1 ⟨rfl, T1, -⟩
              go_wp2_with fail
              go_roundw
              case rel => exact ⟨b, b + 2 * s, _, by first | rfl | (congr 1; omega), by first | rfl | (congr 1; omega), rfl, hbn, (symMerge_size _ _ _ _ _ _).trans hsj.out, T1, (mergeRow_go hbn hs0).trans hP.out⟩
              case measure => simp [intOf]; omega
            · by_cases hm : a + s < n
              · go_wp2_with fail
                refine (tsym_at hTj.out hsj.out hn (2 * s) a (a + s) n (by omega) (by omega) hm (Nat.le_refl _) (by omega) (by omega) (by omega)).mono ?_
                rintro e w1 ⟨rfl, T1, -⟩
                go_wp2_with fail
                go_roundw
                case rel => exact ⟨2 * s, _, by go_num, by omega, by omega, (symMerge_size _ _ _ _ _ _).trans hsj.out, T1, by rw [← hO.out, ← mergeAll_go hsl hs0, ← hP.out, mergeRow_end hbn hm]; exact rfl⟩
                case measure => simp [intOf]; omega
              · go_wp2_with fail
                go_roundw
                case rel => exact ⟨2 * s, _, by go_num, by omega, by omega, hsj, hTj, by rw [← hO.out, ← mergeAll_go hsl hs0, ← hP.out, mergeRow_end' hbn hm]; exact rfl⟩
                case measure => simp [intOf]; omega
        · go_wp2_with fail
          go_end0
          exact ⟨rfl, by rw [← HR.out, ← hO.out, mergeAll_end hsl]; exact hT.out⟩
theorem tstable_box (v : Value) (blk n : Nat) (hX : Box blk n v) (d : Array (Int × Int)) (w : World) (h : Tn blk d w w) (hs : d.size = n) (hn : n ≤ 4096) (h0 : 0 < n) :
    Calls Try.prog 91 #[v, .int .i64 n, .func (.func 82) #[] #[]] w fun e w' => e = .returned (.tuple #[]) ∧ Aside (Tn blk (Pl.stable ltK d n) w w') := by
  obtain ⟨c, rfl⟩ := box_some hX h0
  exact tstable_any d w h hs hn
end
end Go.Proofs.Ytaifmeajfldckaa
