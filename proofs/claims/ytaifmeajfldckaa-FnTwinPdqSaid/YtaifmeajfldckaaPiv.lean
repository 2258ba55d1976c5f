/- sort's order2, median, medianAdjacent and choosePivot over an Interface value compute what the plain ones do. Conditions: the places lie in the row. -/
import Derived.Test.YtaifmeajfldckaaCnt
import Derived.Sort.LotD4
import Derived.Sort.Walk11
namespace Go.Proofs.Ytaifmeajfldckaa
open Go.RowKit Go.Sort Go.Proofs

section
variable {lt : (Int × Int) → (Int × Int) → Bool} {T : TypeId} {rv : Value} {gl gs gn : Nat} {rl rs rn : Value} {blk n : Nat}

theorem ord_lt (lt : (Int × Int) → (Int × Int) → Bool) (d : Array (Int × Int)) {a b m : Nat} (s : Nat) (ha : a < m) (hb : b < m) : (order2 lt d a b s).1 < m ∧ (order2 lt d a b s).2.1 < m := by
  unfold order2
  split
  · exact ⟨hb, ha⟩
  · exact ⟨ha, hb⟩

set_option maxHeartbeats 1000000 in
theorem order2_any {w0 w : World} {d : Array (Int × Int)} (M : Meth lt T rv gl gs gn rl rs rn blk n w0) (hs : d.size = n) (c s : Nat) (h : Cv blk d w0 c (.int .i64 s) w) (a b : Nat) (ha : a < n) (hb : b < n) (hz : s < 1000) :
    Calls Try.prog 121 #[.iface T rv, .int .i64 a, .int .i64 b, .pointer (some ⟨c, 0, none⟩)] w fun e w' =>
      e = .returned (.tuple #[.int .i64 (order2 lt d a b s).1, .int .i64 (order2 lt d a b s).2.1]) ∧ Aside (Cv blk d w0 c (.int .i64 (order2 lt d a b s).2.2) w') := by
  have hn := M.hn
  have el := M.el
  have ml := M.ml
  have o0 := h.tn.on
  cases hlv : lt d[b]! d[a]! with
  | true =>
    have e2 : order2 lt d a b s = (b, a, s + 1) := by simp [order2, hlv]
    rw [e2]
    have hl := M.lessAt h.tn hs b a hb ha hlv rfl rfl
    have HC := aside h
    clear h hlv e2 M hs
    go_enter Try.func121, Try.ntmps121
    go_wp2_with fail
    refine hl.mono ?_
    rintro e w1 ⟨rfl, T1, o1, B1⟩
    have C1 := aside (HC.out.below B1.out)
    have cc := C1.out.cell
    have cf := C1.out.frozen
    clear hl HC T1 B1
    go_wp2_with fail
    go_ret2
    exact ⟨rfl, C1.out.set _⟩
  | false =>
    have e2 : order2 lt d a b s = (a, b, s) := by simp [order2, hlv]
    rw [e2]
    have hl := M.lessAt h.tn hs b a hb ha hlv rfl rfl
    have HC := aside h
    clear h hlv e2 M hs
    go_enter Try.func121, Try.ntmps121
    go_wp2_with fail
    refine hl.mono ?_
    rintro e w1 ⟨rfl, T1, o1, B1⟩
    have C1 := aside (HC.out.below B1.out)
    clear hl HC T1 B1
    go_wp2_with fail
    go_ret2
    exact ⟨rfl, C1.out⟩

set_option maxHeartbeats 1000000 in
theorem median_any {w0 w : World} {d : Array (Int × Int)} (M : Meth lt T rv gl gs gn rl rs rn blk n w0) (hs : d.size = n) (c s : Nat) (h : Cv blk d w0 c (.int .i64 s) w) (x y z : Nat) (hx : x < n) (hy : y < n) (hz : z < n) (hS : s < 900) :
    Calls Try.prog 116 #[.iface T rv, .int .i64 x, .int .i64 y, .int .i64 z, .pointer (some ⟨c, 0, none⟩)] w fun e w' =>
      e = .returned (.int .i64 (median lt d x y z s).1) ∧ Aside (Cv blk d w0 c (.int .i64 (median lt d x y z s).2) w') := by
  have l1 := ord_lt lt d s (show x < d.size by omega) (show y < d.size by omega)
  have s1 := order2_count lt d x y s
  have l2 := ord_lt lt d (order2 lt d x y s).2.2 l1.2 (show z < d.size by omega)
  have s2 := order2_count lt d (order2 lt d x y s).2.1 z (order2 lt d x y s).2.2
  have c1 := order2_any M hs c s h x y hx hy (by omega)
  have c2 := fun w1 h1 => order2_any (w := w1) M hs c (order2 lt d x y s).2.2 h1 (order2 lt d x y s).2.1 z (by omega) hz (by omega)
  have c3 := fun w1 h1 => order2_any (w := w1) M hs c (order2 lt d (order2 lt d x y s).2.1 z (order2 lt d x y s).2.2).2.2 h1 (order2 lt d x y s).1 (order2 lt d (order2 lt d x y s).2.1 z (order2 lt d x y s).2.2).1 (by omega) (by omega) (by omega)
  have e : median lt d x y z s = ((order2 lt d (order2 lt d x y s).1 (order2 lt d (order2 lt d x y s).2.1 z (order2 lt d x y s).2.2).1 (order2 lt d (order2 lt d x y s).2.1 z (order2 lt d x y s).2.2).2.2).2.1, (order2 lt d (order2 lt d x y s).1 (order2 lt d (order2 lt d x y s).2.1 z (order2 lt d x y s).2.2).1 (order2 lt d (order2 lt d x y s).2.1 z (order2 lt d x y s).2.2).2.2).2.2) := rfl
  rw [e]
  clear e
  generalize order2 lt d (order2 lt d x y s).1 (order2 lt d (order2 lt d x y s).2.1 z (order2 lt d x y s).2.2).1 (order2 lt d (order2 lt d x y s).2.1 z (order2 lt d x y s).2.2).2.2 = r3 at c3 ⊢
  generalize order2 lt d (order2 lt d x y s).2.1 z (order2 lt d x y s).2.2 = r2 at c2 c3
  generalize order2 lt d x y s = r1 at c1 c2 c3
  obtain ⟨p1, q1, t1⟩ := r1
  obtain ⟨p2, q2, t2⟩ := r2
  obtain ⟨p3, q3, t3⟩ := r3
  simp only at c1 c2 c3 ⊢
  have C2 := aside c2
  have C3 := aside c3
  clear h M hs c2 c3 l1 s1 l2 s2
  go_enter Try.func116, Try.ntmps116
  go_wp2_with fail
  refine c1.mono ?_
  rintro e w1 ⟨rfl, h1⟩
  go_wp2_with fail
  refine (C2.out w1 h1.out).mono ?_
  rintro e w2 ⟨rfl, h2⟩
  go_wp2_with fail
  refine (C3.out w2 h2.out).mono ?_
  rintro e w3 ⟨rfl, h3⟩
  go_wp2_with fail
  go_ret
  exact ⟨rfl, h3⟩

set_option maxHeartbeats 1000000 in
theorem medianAdjacent_any {w0 w : World} {d : Array (Int × Int)} (M : Meth lt T rv gl gs gn rl rs rn blk n w0) (hs : d.size = n) (c s : Nat) (h : Cv blk d w0 c (.int .i64 s) w) (x : Nat) (hx : 1 ≤ x) (hx2 : x + 1 < n) (hS : s < 900) :
    Calls Try.prog 115 #[.iface T rv, .int .i64 x, .pointer (some ⟨c, 0, none⟩)] w fun e w' =>
      e = .returned (.int .i64 (medianAdjacent lt d x s).1) ∧ Aside (Cv blk d w0 c (.int .i64 (medianAdjacent lt d x s).2) w') := by
  have hn := M.hn
  have hm := median_any M hs c s h (x - 1) x (x + 1) (by omega) (by omega) hx2 hS
  rw [show ((x - 1 : Nat) : Int) = (x : Int) - 1 by omega, show ((x + 1 : Nat) : Int) = (x : Int) + 1 by omega] at hm
  clear h M hs
  go_enter Try.func115, Try.ntmps115
  go_wp2_with fail
  refine hm.mono ?_
  rintro e w1 ⟨rfl, h1⟩
  go_wp2_with fail
  go_ret
  exact ⟨rfl, h1⟩

/-- The end of choosePivot, behind the counting. -/
theorem hint_of (s : Nat) (Hc : Int) (hHc : Hc = hintCode (hintOf s)) : (s = 0 → Hc = 1) ∧ (s = 12 → Hc = 2) ∧ (s ≠ 0 → s ≠ 12 → Hc = 0) :=
  ⟨fun h => by rw [hHc, h]; rfl, fun h => by rw [hHc, h]; rfl, fun h1 h2 => by rw [hHc]; unfold hintOf; rw [if_neg h1, if_neg h2]; rfl⟩

set_option maxHeartbeats 4000000 in
set_option maxRecDepth 100000 in
theorem choosePivot_any (d : Array (Int × Int)) (w : World) (M : Meth lt T rv gl gs gn rl rs rn blk n w) (h : Tn blk d w w) (hs : d.size = n) (a b : Nat) (hab : a < b) (hb : b ≤ n) :
    Calls Try.prog 101 #[.iface T rv, .int .i64 a, .int .i64 b] w fun e w' =>
      e = .returned (.tuple #[.int .i64 (choosePivot lt d a b).1, .int .i64 (hintCode (choosePivot lt d a b).2)]) ∧ Tn blk d w w' := by
  have hn := M.hn
  rw [choosePivot_eq]
  obtain ⟨I, hI⟩ : ∃ I : Nat, I = a + (b - a) / 4 * 1 := ⟨_, rfl⟩
  obtain ⟨J, hJ⟩ : ∃ J : Nat, J = a + (b - a) / 4 * 2 := ⟨_, rfl⟩
  obtain ⟨K, hK⟩ : ∃ K : Nat, K = a + (b - a) / 4 * 3 := ⟨_, rfl⟩
  have eI : ((a : Int) + ((b : Int) - (a : Int)) / 4) = (I : Int) := by omega
  have eJ : ((a : Int) + ((b : Int) - (a : Int)) / 4 * 2) = (J : Int) := by omega
  have eK : ((a : Int) + ((b : Int) - (a : Int)) / 4 * 3) = (K : Int) := by omega
  have start := fun t => Cv.start h (.int .i64 ((0 : Nat) : Int)) t
  by_cases h8 : b - a ≥ 8
  · by_cases h50 : b - a ≥ 50
    · obtain ⟨i1, s1, h1⟩ : ∃ i1 s1, medianAdjacent lt d I 0 = (i1, s1) := ⟨_, _, rfl⟩
      obtain ⟨j1, s2, h2⟩ : ∃ j1 s2, medianAdjacent lt d J s1 = (j1, s2) := ⟨_, _, rfl⟩
      obtain ⟨k1, s3, h3⟩ : ∃ k1 s3, medianAdjacent lt d K s2 = (k1, s3) := ⟨_, _, rfl⟩
      obtain ⟨p, s, h4⟩ : ∃ p s, median lt d i1 j1 k1 s3 = (p, s) := ⟨_, _, rfl⟩
      have hraw : rawPivot lt d a b = (p, s) := by simp only [rawPivot, if_pos h8, if_pos h50, ← hI, ← hJ, ← hK, h1, h2, h3, h4]
      have m1 := medianAdjacent_mem lt d I 0; rw [h1] at m1
      have m2 := medianAdjacent_mem lt d J s1; rw [h2] at m2
      have m3 := medianAdjacent_mem lt d K s2; rw [h3] at m3
      have n1 := medianAdjacent_count lt d I 0; rw [h1] at n1
      have n2 := medianAdjacent_count lt d J s1; rw [h2] at n2
      have n3 := medianAdjacent_count lt d K s2; rw [h3] at n3
      simp only [] at m1 m2 m3 n1 n2 n3
      have c1 := fun t => medianAdjacent_any M hs w.heap.size 0 (start t) I (by omega) (by omega) (by omega)
      have c2 := fun w1 h => medianAdjacent_any (w := w1) M hs w.heap.size s1 h J (by omega) (by omega) (by omega)
      have c3 := fun w1 h => medianAdjacent_any (w := w1) M hs w.heap.size s2 h K (by omega) (by omega) (by omega)
      have c4 := fun w1 h => median_any (w := w1) M hs w.heap.size s3 h i1 j1 k1 (by omega) (by omega) (by omega) (by omega)
      rw [h1] at c1
      rw [h2] at c2
      rw [h3] at c3
      rw [h4] at c4
      rw [hraw]
      obtain ⟨Hc, hHc⟩ : ∃ Hc : Int, Hc = hintCode (hintOf s) := ⟨_, rfl⟩
      obtain ⟨hh0, hh12, hhx⟩ := hint_of s Hc hHc
      show Calls Try.prog 101 _ w fun e w' => e = .returned (.tuple #[.int .i64 (p : Int), .int .i64 (hintCode (hintOf s))]) ∧ Tn blk d w w'
      rw [← hHc]
      have C1 := aside c1
      have C2 := aside c2
      have C3 := aside c3
      have C4 := aside c4
      clear hHc hraw h1 h2 h3 h4 hI hJ hK m1 m2 m3 n1 n2 n3 c1 c2 c3 c4 start M hs h
      go_enter Try.func101, Try.ntmps101
      go_wp2_with fail
      refine (C1.out _).mono ?_
      rintro e w1 ⟨rfl, D1⟩
      go_wp2_with fail
      refine (C2.out w1 D1.out).mono ?_
      rintro e w2 ⟨rfl, D2⟩
      go_wp2_with fail
      refine (C3.out w2 D2.out).mono ?_
      rintro e w3 ⟨rfl, D3⟩
      go_wp2_with fail
      refine (C4.out w3 D3.out).mono ?_
      rintro e w4 ⟨rfl, D4⟩
      have cc := D4.out.cell
      have cf := D4.out.frozen
      have PW := aside D4.out.tn
      clear C1 C2 C3 C4 D1 D2 D3 D4
      go_wp2
      all_goals
        go_ret2
        refine ⟨?_, PW.out⟩
        first
          | (have e0 : (s : Int) = 0 := of_beq_int (by assumption)
             rw [hh0 (by omega)]; rfl)
          | (have e1 : (s : Int) = 12 := of_beq_int (by assumption)
             rw [hh12 (by omega)]; rfl)
          | (have e0 : (s : Int) ≠ 0 := of_bne_int (by assumption)
             have e1 : (s : Int) ≠ 12 := of_bne_int (by assumption)
             rw [hhx (by omega) (by omega)]; rfl)
          | (rw [hh0 (by omega)]; rfl)
    · obtain ⟨p, s, h4⟩ : ∃ p s, median lt d I J K 0 = (p, s) := ⟨_, _, rfl⟩
      have hraw : rawPivot lt d a b = (p, s) := by simp only [rawPivot, if_pos h8, if_neg h50, ← hI, ← hJ, ← hK, h4]
      have c4 := fun t => median_any M hs w.heap.size 0 (start t) I J K (by omega) (by omega) (by omega) (by omega)
      rw [h4] at c4
      rw [hraw]
      obtain ⟨Hc, hHc⟩ : ∃ Hc : Int, Hc = hintCode (hintOf s) := ⟨_, rfl⟩
      obtain ⟨hh0, hh12, hhx⟩ := hint_of s Hc hHc
      show Calls Try.prog 101 _ w fun e w' => e = .returned (.tuple #[.int .i64 (p : Int), .int .i64 (hintCode (hintOf s))]) ∧ Tn blk d w w'
      rw [← hHc]
      have C4 := aside c4
      clear hHc hraw h4 hI hJ hK c4 start M hs h
      go_enter Try.func101, Try.ntmps101
      go_wp2_with fail
      refine (C4.out _).mono ?_
      rintro e w4 ⟨rfl, D4⟩
      have cc := D4.out.cell
      have cf := D4.out.frozen
      have PW := aside D4.out.tn
      clear C4 D4
      go_wp2
      all_goals
        go_ret2
        refine ⟨?_, PW.out⟩
        first
          | (have e0 : (s : Int) = 0 := of_beq_int (by assumption)
             rw [hh0 (by omega)]; rfl)
          | (have e1 : (s : Int) = 12 := of_beq_int (by assumption)
             rw [hh12 (by omega)]; rfl)
          | (have e0 : (s : Int) ≠ 0 := of_bne_int (by assumption)
             have e1 : (s : Int) ≠ 12 := of_bne_int (by assumption)
             rw [hhx (by omega) (by omega)]; rfl)
          | (rw [hh0 (by omega)]; rfl)
  · have hraw : rawPivot lt d a b = (J, 0) := by simp only [rawPivot, if_neg h8, ← hJ]
    rw [hraw]
    have PW := aside (fun t => (start t).tn)
    show Calls Try.prog 101 _ w fun e w' => e = .returned (.tuple #[.int .i64 (J : Int), .int .i64 1]) ∧ Tn blk d w w'
    clear hraw hI hJ hK start M hs h
    go_enter Try.func101, Try.ntmps101
    go_wp2
    go_ret2
    exact ⟨rfl, PW.out _⟩
theorem choosePivot_at {w0 w : World} {d : Array (Int × Int)} (M : Meth lt T rv gl gs gn rl rs rn blk n w0) (h : Tn blk d w0 w) (hs : d.size = n) (a b : Nat) (hab : a < b) (hb : b ≤ n) {A B : Int} (eA : A = a) (eB : B = b) :
    Calls Try.prog 101 #[.iface T rv, .int .i64 A, .int .i64 B] w (Post blk d w0 w (.tuple #[.int .i64 (choosePivot lt d a b).1, .int .i64 (hintCode (choosePivot lt d a b).2)])) := by
  subst eA eB
  exact post_lift (choosePivot_any d w (M.at_ h hs) h.self hs a b hab hb) h rfl
end
end Go.Proofs.Ytaifmeajfldckaa
