/- slices' order2CmpFunc, medianCmpFunc, medianAdjacentCmpFunc, choosePivotCmpFunc and reverseRangeCmpFunc of items by keys do what the plain ones do. Conditions: the places lie in the row. -/
import Derived.Test.YtaifmeajfldckaaCmp
import Derived.Test.YtaifmeajfldckaaPiv
import Derived.Test.YtaifmeajfldckaaRvr
namespace Go.Proofs.Ytaifmeajfldckaa
open Go.RowKit Go.Sort Go.Proofs

section
variable {blk n cap : Nat}
theorem Cv.alloc {c : Nat} {d : Array (Int × Int)} {w0 w : World} {v : Value} (h : Cv blk d w0 c v w) (o : Obj) : Cv blk d w0 c v (w.alloc o) := h.below ((Below.refl _ _).alloc (Nat.le_refl _) o)

set_option maxHeartbeats 2000000 in
set_option maxRecDepth 100000 in
theorem torder2_any {w0 w : World} {d : Array (Int × Int)} (hs : d.size = n) (hn : n ≤ 4096) (c s : Nat) (h : Cv blk d w0 c (.int .i64 s) w) (a b : Nat) (ha : a < n) (hb : b < n) (hz : s < 1000) :
    Calls Try.prog 122 #[.slice (some ⟨blk, 0, none⟩) n cap, .int .i64 a, .int .i64 b, .pointer (some ⟨c, 0, none⟩), .func (.func 82) #[] #[]] w fun e w' =>
      e = .returned (.tuple #[.int .i64 (order2 ltK d a b s).1, .int .i64 (order2 ltK d a b s).2.1]) ∧ Aside (Cv blk d w0 c (.int .i64 (order2 ltK d a b s).2.2) w') := by
  have ek := byKey_enters
  cases hlv : ltK d[b]! d[a]! with
  | true =>
    have e2 : order2 ltK d a b s = (b, a, s + 1) := by simp [order2, hlv]
    rw [e2]
    have HC := aside h
    have HS := aside hs
    have HV := aside hlv
    clear h hlv e2 hs
    go_enter Try.func122, Try.ntmps122
    obtain ⟨x1, x1', y1, y1', ca1, cb1, cc1, cd1, hc1⟩ := cmpT HC.out.tn HS.out (b) (a) (by omega) (by omega) HV.out
    have g1_0a : ((b : Int)).toNat = b := by omega
    have g1_0b : (0 : Int) ≤ (b : Int) := by omega
    have g1_0c : (b : Int) < (n : Int) := by omega
    have g1_0d : IntKind.i64.wrap ((b : Int)) = (b : Int) := by rw [IntKind.wrap_i64]; omega
    have g1_1a : ((a : Int)).toNat = a := by omega
    have g1_1b : (0 : Int) ≤ (a : Int) := by omega
    have g1_1c : (a : Int) < (n : Int) := by omega
    have g1_1d : IntKind.i64.wrap ((a : Int)) = (a : Int) := by rw [IntKind.wrap_i64]; omega
    go_wp2_with fail
    go_still_tail 9, (by kernel_rfl)
    change wpList _ _ _ _ _ w.drew
    have TD1 := HC.out.drewN 1
    change Cv _ _ _ _ _ w.drew at TD1
    generalize w.drew = wd1 at TD1 ⊢
    clear ca1 cb1 cc1 cd1 g1_0a g1_0b g1_0c g1_0d g1_1a g1_1b g1_1c g1_1d
    go_wp2_with fail
    refine (hc1.out wd1).mono ?_
    rintro e _ ⟨z1, rfl, hz1, o1, o1', rfl⟩
    have C1 := aside ((TD1.alloc o1).alloc o1')
    generalize (wd1.alloc o1).alloc o1' = w1 at C1 ⊢
    clear TD1 hc1 o1 o1'
    have hd1 : decide (z1 < 0) = true := decide_eq_true (by omega)
    have cc := C1.out.cell
    have cf := C1.out.frozen
    go_wp2_with fail
    go_ret2
    exact ⟨rfl, C1.out.set _⟩
  | false =>
    have e2 : order2 ltK d a b s = (a, b, s) := by simp [order2, hlv]
    rw [e2]
    have HC := aside h
    have HS := aside hs
    have HV := aside hlv
    clear h hlv e2 hs
    go_enter Try.func122, Try.ntmps122
    obtain ⟨x2, x2', y2, y2', ca2, cb2, cc2, cd2, hc2⟩ := cmpF HC.out.tn HS.out (b) (a) (by omega) (by omega) HV.out
    have g2_0a : ((b : Int)).toNat = b := by omega
    have g2_0b : (0 : Int) ≤ (b : Int) := by omega
    have g2_0c : (b : Int) < (n : Int) := by omega
    have g2_0d : IntKind.i64.wrap ((b : Int)) = (b : Int) := by rw [IntKind.wrap_i64]; omega
    have g2_1a : ((a : Int)).toNat = a := by omega
    have g2_1b : (0 : Int) ≤ (a : Int) := by omega
    have g2_1c : (a : Int) < (n : Int) := by omega
    have g2_1d : IntKind.i64.wrap ((a : Int)) = (a : Int) := by rw [IntKind.wrap_i64]; omega
    go_wp2_with fail
    go_still_tail 9, (by kernel_rfl)
    change wpList _ _ _ _ _ w.drew
    have TD2 := HC.out.drewN 1
    change Cv _ _ _ _ _ w.drew at TD2
    generalize w.drew = wd2 at TD2 ⊢
    clear ca2 cb2 cc2 cd2 g2_0a g2_0b g2_0c g2_0d g2_1a g2_1b g2_1c g2_1d
    go_wp2_with fail
    refine (hc2.out wd2).mono ?_
    rintro e _ ⟨z2, rfl, hz2, o2, o2', rfl⟩
    have C1 := aside ((TD2.alloc o2).alloc o2')
    generalize (wd2.alloc o2).alloc o2' = w1 at C1 ⊢
    clear TD2 hc2 o2 o2'
    have hd2 : decide (z2 < 0) = false := decide_eq_false (by omega)
    go_wp2_with fail
    go_ret2
    exact ⟨rfl, C1.out⟩


set_option maxHeartbeats 1000000 in
theorem tmedian_any {w0 w : World} {d : Array (Int × Int)} (hs : d.size = n) (hn : n ≤ 4096) (c s : Nat) (h : Cv blk d w0 c (.int .i64 s) w) (x y z : Nat) (hx : x < n) (hy : y < n) (hz : z < n) (hS : s < 900) :
    Calls Try.prog 120 #[.slice (some ⟨blk, 0, none⟩) n cap, .int .i64 x, .int .i64 y, .int .i64 z, .pointer (some ⟨c, 0, none⟩), .func (.func 82) #[] #[]] w fun e w' =>
      e = .returned (.int .i64 (median ltK d x y z s).1) ∧ Aside (Cv blk d w0 c (.int .i64 (median ltK d x y z s).2) w') := by
  have l1 := ord_lt ltK d s (show x < d.size by omega) (show y < d.size by omega)
  have s1 := order2_count ltK d x y s
  have l2 := ord_lt ltK d (order2 ltK d x y s).2.2 l1.2 (show z < d.size by omega)
  have s2 := order2_count ltK d (order2 ltK d x y s).2.1 z (order2 ltK d x y s).2.2
  have c1 := torder2_any (cap := cap) hs hn c s h x y hx hy (by omega)
  have c2 := fun w1 h1 => torder2_any (cap := cap) (blk := blk) (w0 := w0) (w := w1) hs hn c (order2 ltK d x y s).2.2 h1 (order2 ltK d x y s).2.1 z (by omega) hz (by omega)
  have c3 := fun w1 h1 => torder2_any (cap := cap) (blk := blk) (w0 := w0) (w := w1) hs hn c (order2 ltK d (order2 ltK d x y s).2.1 z (order2 ltK d x y s).2.2).2.2 h1 (order2 ltK d x y s).1 (order2 ltK d (order2 ltK d x y s).2.1 z (order2 ltK d x y s).2.2).1 (by omega) (by omega) (by omega)
  have e : median ltK d x y z s = ((order2 ltK d (order2 ltK d x y s).1 (order2 ltK d (order2 ltK d x y s).2.1 z (order2 ltK d x y s).2.2).1 (order2 ltK d (order2 ltK d x y s).2.1 z (order2 ltK d x y s).2.2).2.2).2.1, (order2 ltK d (order2 ltK d x y s).1 (order2 ltK d (order2 ltK d x y s).2.1 z (order2 ltK d x y s).2.2).1 (order2 ltK d (order2 ltK d x y s).2.1 z (order2 ltK d x y s).2.2).2.2).2.2) := rfl
  rw [e]
  clear e
  generalize order2 ltK d (order2 ltK d x y s).1 (order2 ltK d (order2 ltK d x y s).2.1 z (order2 ltK d x y s).2.2).1 (order2 ltK d (order2 ltK d x y s).2.1 z (order2 ltK d x y s).2.2).2.2 = r3 at c3 ⊢
  generalize order2 ltK d (order2 ltK d x y s).2.1 z (order2 ltK d x y s).2.2 = r2 at c2 c3
  generalize order2 ltK d x y s = r1 at c1 c2 c3
  obtain ⟨p1, q1, t1⟩ := r1
  obtain ⟨p2, q2, t2⟩ := r2
  obtain ⟨p3, q3, t3⟩ := r3
  simp only at c1 c2 c3 ⊢
  have C2 := aside c2
  have C3 := aside c3
  clear h hs c2 c3 l1 s1 l2 s2
  go_enter Try.func120, Try.ntmps120
  go_wp2_with fail
  refine c1.mono ?_
  rintro e w1 ⟨rfl, h1⟩
  go_wp2_with fail
  refine (C2.out w1 h1.out).mono ?_
  rintro e w2 ⟨rfl, h2⟩
  go_wp2_with fail
  refine (C3.out w2 h2.out).mono ?_
  rintro e w3 ⟨rfl, h3⟩
  go_wp2_with fail
  go_ret
  exact ⟨rfl, h3⟩

set_option maxHeartbeats 1000000 in
theorem tmedianAdjacent_any {w0 w : World} {d : Array (Int × Int)} (hs : d.size = n) (hn : n ≤ 4096) (c s : Nat) (h : Cv blk d w0 c (.int .i64 s) w) (x : Nat) (hx : 1 ≤ x) (hx2 : x + 1 < n) (hS : s < 900) :
    Calls Try.prog 119 #[.slice (some ⟨blk, 0, none⟩) n cap, .int .i64 x, .pointer (some ⟨c, 0, none⟩), .func (.func 82) #[] #[]] w fun e w' =>
      e = .returned (.int .i64 (medianAdjacent ltK d x s).1) ∧ Aside (Cv blk d w0 c (.int .i64 (medianAdjacent ltK d x s).2) w') := by
  have hm := tmedian_any (cap := cap) hs hn c s h (x - 1) x (x + 1) (by omega) (by omega) hx2 hS
  rw [show ((x - 1 : Nat) : Int) = (x : Int) - 1 by omega, show ((x + 1 : Nat) : Int) = (x : Int) + 1 by omega] at hm
  clear h hs
  go_enter Try.func119, Try.ntmps119
  go_wp2_with fail
  refine hm.mono ?_
  rintro e w1 ⟨rfl, h1⟩
  go_wp2_with fail
  go_ret
  exact ⟨rfl, h1⟩

set_option maxHeartbeats 4000000 in
set_option maxRecDepth 100000 in
theorem tchoosePivot_any (d : Array (Int × Int)) (w : World) (h : Tn blk d w w) (hs : d.size = n) (hn : n ≤ 4096) (a b : Nat) (hab : a < b) (hb : b ≤ n) :
    Calls Try.prog 108 #[.slice (some ⟨blk, 0, none⟩) n cap, .int .i64 a, .int .i64 b, .func (.func 82) #[] #[]] w fun e w' =>
      e = .returned (.tuple #[.int .i64 (choosePivot ltK d a b).1, .int .i64 (hintCode (choosePivot ltK d a b).2)]) ∧ Tn blk d w w' := by
  rw [choosePivot_eq]
  obtain ⟨I, hI⟩ : ∃ I : Nat, I = a + (b - a) / 4 * 1 := ⟨_, rfl⟩
  obtain ⟨J, hJ⟩ : ∃ J : Nat, J = a + (b - a) / 4 * 2 := ⟨_, rfl⟩
  obtain ⟨K, hK⟩ : ∃ K : Nat, K = a + (b - a) / 4 * 3 := ⟨_, rfl⟩
  have eI : ((a : Int) + ((b : Int) - (a : Int)) / 4) = (I : Int) := by omega
  have eJ : ((a : Int) + ((b : Int) - (a : Int)) / 4 * 2) = (J : Int) := by omega
  have eK : ((a : Int) + ((b : Int) - (a : Int)) / 4 * 3) = (K : Int) := by omega
  have start := fun t => Cv.start h (.int .i64 ((0 : Nat) : Int)) t
  by_cases h8 : b - a ≥ 8
  · by_cases h50 : b - a ≥ 50
    · obtain ⟨i1, s1, h1⟩ : ∃ i1 s1, medianAdjacent ltK d I 0 = (i1, s1) := ⟨_, _, rfl⟩
      obtain ⟨j1, s2, h2⟩ : ∃ j1 s2, medianAdjacent ltK d J s1 = (j1, s2) := ⟨_, _, rfl⟩
      obtain ⟨k1, s3, h3⟩ : ∃ k1 s3, medianAdjacent ltK d K s2 = (k1, s3) := ⟨_, _, rfl⟩
      obtain ⟨p, s, h4⟩ : ∃ p s, median ltK d i1 j1 k1 s3 = (p, s) := ⟨_, _, rfl⟩
      have hraw : rawPivot ltK d a b = (p, s) := by simp only [rawPivot, if_pos h8, if_pos h50, ← hI, ← hJ, ← hK, h1, h2, h3, h4]
      have m1 := medianAdjacent_mem ltK d I 0; rw [h1] at m1
      have m2 := medianAdjacent_mem ltK d J s1; rw [h2] at m2
      have m3 := medianAdjacent_mem ltK d K s2; rw [h3] at m3
      have n1 := medianAdjacent_count ltK d I 0; rw [h1] at n1
      have n2 := medianAdjacent_count ltK d J s1; rw [h2] at n2
      have n3 := medianAdjacent_count ltK d K s2; rw [h3] at n3
      simp only [] at m1 m2 m3 n1 n2 n3
      have c1 := fun t => tmedianAdjacent_any (cap := cap) hs hn w.heap.size 0 (start t) I (by omega) (by omega) (by omega)
      have c2 := fun w1 h => tmedianAdjacent_any (cap := cap) (blk := blk) (w0 := w) (w := w1) hs hn w.heap.size s1 h J (by omega) (by omega) (by omega)
      have c3 := fun w1 h => tmedianAdjacent_any (cap := cap) (blk := blk) (w0 := w) (w := w1) hs hn w.heap.size s2 h K (by omega) (by omega) (by omega)
      have c4 := fun w1 h => tmedian_any (cap := cap) (blk := blk) (w0 := w) (w := w1) hs hn w.heap.size s3 h i1 j1 k1 (by omega) (by omega) (by omega) (by omega)
      rw [h1] at c1
      rw [h2] at c2
      rw [h3] at c3
      rw [h4] at c4
      rw [hraw]
      obtain ⟨Hc, hHc⟩ : ∃ Hc : Int, Hc = hintCode (hintOf s) := ⟨_, rfl⟩
      obtain ⟨hh0, hh12, hhx⟩ := hint_of s Hc hHc
      show Calls Try.prog 108 _ w fun e w' => e = .returned (.tuple #[.int .i64 (p : Int), .int .i64 (hintCode (hintOf s))]) ∧ Tn blk d w w'
      rw [← hHc]
      have C1 := aside c1
      have C2 := aside c2
      have C3 := aside c3
      have C4 := aside c4
      clear hHc hraw h1 h2 h3 h4 hI hJ hK m1 m2 m3 n1 n2 n3 c1 c2 c3 c4 start hs h
      go_enter Try.func108, Try.ntmps108
      go_wp2_with fail
      refine (C1.out _).mono ?_
      rintro e w1 ⟨rfl, D1⟩
      go_wp2_with fail
      refine (C2.out w1 D1.out).mono ?_
      rintro e w2 ⟨rfl, D2⟩
      go_wp2_with fail
      refine (C3.out w2 D2.out).mono ?_
      rintro e w3 ⟨rfl, D3⟩
      go_wp2_with fail
      refine (C4.out w3 D3.out).mono ?_
      rintro e w4 ⟨rfl, D4⟩
      have cc := D4.out.cell
      have cf := D4.out.frozen
      have PW := aside D4.out.tn
      clear C1 C2 C3 C4 D1 D2 D3 D4
      go_wp2
      all_goals
        go_ret2
        refine ⟨?_, PW.out⟩
        first
          | (have e0 : (s : Int) = 0 := of_beq_int (by assumption)
             rw [hh0 (by omega)]; rfl)
          | (have e1 : (s : Int) = 12 := of_beq_int (by assumption)
             rw [hh12 (by omega)]; rfl)
          | (have e0 : (s : Int) ≠ 0 := of_bne_int (by assumption)
             have e1 : (s : Int) ≠ 12 := of_bne_int (by assumption)
             rw [hhx (by omega) (by omega)]; rfl)
          | (rw [hh0 (by omega)]; rfl)
    · obtain ⟨p, s, h4⟩ : ∃ p s, median ltK d I J K 0 = (p, s) := ⟨_, _, rfl⟩
      have hraw : rawPivot ltK d a b = (p, s) := by simp only [rawPivot, if_pos h8, if_neg h50, ← hI, ← hJ, ← hK, h4]
      have c4 := fun t => tmedian_any (cap := cap) hs hn w.heap.size 0 (start t) I J K (by omega) (by omega) (by omega) (by omega)
      rw [h4] at c4
      rw [hraw]
      obtain ⟨Hc, hHc⟩ : ∃ Hc : Int, Hc = hintCode (hintOf s) := ⟨_, rfl⟩
      obtain ⟨hh0, hh12, hhx⟩ := hint_of s Hc hHc
      show Calls Try.prog 108 _ w fun e w' => e = .returned (.tuple #[.int .i64 (p : Int), .int .i64 (hintCode (hintOf s))]) ∧ Tn blk d w w'
      rw [← hHc]
      have C4 := aside c4
      clear hHc hraw h4 hI hJ hK c4 start hs h
      go_enter Try.func108, Try.ntmps108
      go_wp2_with fail
      refine (C4.out _).mono ?_
      rintro e w4 ⟨rfl, D4⟩
      have cc := D4.out.cell
      have cf := D4.out.frozen
      have PW := aside D4.out.tn
      clear C4 D4
      go_wp2
      all_goals
        go_ret2
        refine ⟨?_, PW.out⟩
        first
          | (have e0 : (s : Int) = 0 := of_beq_int (by assumption)
             rw [hh0 (by omega)]; rfl)
          | (have e1 : (s : Int) = 12 := of_beq_int (by assumption)
             rw [hh12 (by omega)]; rfl)
          | (have e0 : (s : Int) ≠ 0 := of_bne_int (by assumption)
             have e1 : (s : Int) ≠ 12 := of_bne_int (by assumption)
             rw [hhx (by omega) (by omega)]; rfl)
          | (rw [hh0 (by omega)]; rfl)
  · have hraw : rawPivot ltK d a b = (J, 0) := by simp only [rawPivot, if_neg h8, ← hJ]
    rw [hraw]
    have PW := aside (fun t => (start t).tn)
    show Calls Try.prog 108 _ w fun e w' => e = .returned (.tuple #[.int .i64 (J : Int), .int .i64 1]) ∧ Tn blk d w w'
    clear hraw hI hJ hK start hs h
    go_enter Try.func108, Try.ntmps108
    go_wp2
    go_ret2
    exact ⟨rfl, PW.out _⟩
theorem tchoosePivot_at {w0 w : World} {d : Array (Int × Int)} (h : Tn blk d w0 w) (hs : d.size = n) (hn : n ≤ 4096) (a b : Nat) (hab : a < b) (hb : b ≤ n) {A B : Int} (eA : A = a) (eB : B = b) :
    Calls Try.prog 108 #[.slice (some ⟨blk, 0, none⟩) n cap, .int .i64 A, .int .i64 B, .func (.func 82) #[] #[]] w (TPost blk d w0 w (.tuple #[.int .i64 (choosePivot ltK d a b).1, .int .i64 (hintCode (choosePivot ltK d a b).2)])) := by
  subst eA eB
  exact tpost (tchoosePivot_any d w h.self hs hn a b hab hb) h rfl

set_option maxHeartbeats 4000000 in
set_option maxRecDepth 100000 in
theorem treverseRange_any (d : Array (Int × Int)) (w : World) (h : Tn blk d w w) (hs : d.size = n) (hn : n ≤ 4096) (a b : Nat) (hab : a < b) (hb : b ≤ n) :
    Calls Try.prog 109 #[.slice (some ⟨blk, 0, none⟩) n cap, .int .i64 a, .int .i64 b, .func (.func 82) #[] #[]] w fun e w' => e = .returned (.tuple #[]) ∧ Tn blk (reverseRange d a b) w w' := by
  have H := aside h
  have HS := aside hs
  clear h hs
  go_enter Try.func109, Try.ntmps109
  go_wp2
  go_loopw [8, 9] (fun vi vj wr => ∃ (i j : Nat) (dk : Array (Int × Int)), vi = .int .i64 i ∧ vj = .int .i64 j ∧ i ≤ j + 1 ∧ j < n ∧ Aside (dk.size = n) ∧ Aside (Tn blk dk w wr) ∧ Aside (reverseLoop i j dk = reverseLoop a (b - 1) d)) (fun vi vj _ => (intOf vj).toNat + 1 - (intOf vi).toNat)
  case atStart => exact ⟨a, b - 1, d, rfl, by congr 1; omega, by omega, by omega, HS, H, rfl⟩
  case round =>
    obtain ⟨i, j, dk, rfl, rfl, hij, hjn, hsk, hT, hO⟩ := hrel
    by_cases hlt : i < j
    · obtain ⟨X3, X3', Y3, Y3', -, -, a3, a3', b3, b3', p3, p3', q3, q3', ⟨u3, e3⟩, ⟨v3, e3'⟩, ⟨t3, e3''⟩, S3⟩ := exch hT.out (i) (j) (by rw [hsk.out]; omega) (by rw [hsk.out]; omega)
      have T1 := aside (S3 1)
      clear S3
      have g3_0a : ((i : Int)).toNat = i := by omega
      have g3_0b : (0 : Int) ≤ (i : Int) := by omega
      have g3_0c : (i : Int) < (n : Int) := by omega
      have g3_0d : IntKind.i64.wrap ((i : Int)) = (i : Int) := by rw [IntKind.wrap_i64]; omega
      have g3_1a : ((j : Int)).toNat = j := by omega
      have g3_1b : (0 : Int) ≤ (j : Int) := by omega
      have g3_1c : (j : Int) < (n : Int) := by omega
      have g3_1d : IntKind.i64.wrap ((j : Int)) = (j : Int) := by rw [IntKind.wrap_i64]; omega
      go_wp2_with fail
      go_region
      clear e3 e3' e3'' a3 a3' b3 b3' p3 p3' q3 q3' g3_0a g3_0b g3_0c g3_0d g3_1a g3_1b g3_1c g3_1d
      go_wp2_with fail
      go_roundw
      case rel => exact ⟨i + 1, j - 1, _, by go_num, by congr 1; omega, by omega, by omega, (size_swp _ _ _).trans hsk.out, T1, (revLoop_go hlt).trans hO.out⟩
      case measure => simp [intOf]; omega
    · go_wp2_with fail
      go_end0
      exact ⟨rfl, by unfold reverseRange; rw [← hO.out, revLoop_end hlt]; exact hT.out⟩
theorem treverseRange_at {w0 w : World} {d : Array (Int × Int)} (h : Tn blk d w0 w) (hs : d.size = n) (hn : n ≤ 4096) (a b : Nat) (hab : a < b) (hb : b ≤ n) {A B : Int} (eA : A = a) (eB : B = b) :
    Calls Try.prog 109 #[.slice (some ⟨blk, 0, none⟩) n cap, .int .i64 A, .int .i64 B, .func (.func 82) #[] #[]] w (TPost blk (reverseRange d a b) w0 w (.tuple #[])) := by
  subst eA eB
  exact tpost (treverseRange_any d w h.self hs hn a b hab hb) h (reverseRange_size _ _ _)
end
end Go.Proofs.Ytaifmeajfldckaa
