/- spec.Ahead and spec.AheadItems: where they say true no item ahead of the range has a greater key than one in it. Condition: at most 4096 items, 0 <= a <= b <= n. -/
import Derived.Test.YtaifmeajfldckaaKeys
namespace Go.Proofs.Ytaifmeajfldckaa
open Go.RowKit Go.Sort Go.Proofs

def AheadPost (xs : Array Int) (a b : Nat) (w : World) (e : Ending) (w' : World) : Prop := ∃ r : Bool, e = .returned (.bool r) ∧ (r = true → ∀ i, i < a → ∀ j, a ≤ j → j < b → xs[i]! ≤ xs[j]!) ∧ w = w'

set_option maxHeartbeats 2000000 in
theorem ahead_any (v : Value) (xs : Array Int) (w : World) (base : Nat) (ho : OwnN w base v xs) (hn : xs.size ≤ 4096) (a b : Nat) (hab : a ≤ b) (hb : b ≤ xs.size) :
    Calls Try.prog 70 #[v, .int .i64 a, .int .i64 b] w (AheadPost xs a b w) := by
  rcases ho with ⟨h0, rfl⟩ | ⟨g, c, rfl, hc, hm, _, _, hH⟩
  · obtain rfl : b = 0 := by omega
    obtain rfl : a = 0 := by omega
    clear h0
    go_enter Try.func70, Try.ntmps70
    go_wp2
    go_rounds 1
    go_ret
    exact ⟨true, rfl, fun _ i hi => by omega, rfl⟩
  · unfold maxLen at hm
    have HC : Aside (∀ i, i < xs.size → w.cell? ⟨g, i, none⟩ = some (.int .i64 xs[i]!)) := by
      intro i hi
      have := (hH i hi).1
      rw [Nat.zero_add] at this
      exact this
    obtain ⟨n, hnn⟩ : ∃ n, xs.size = n := ⟨_, rfl⟩
    rw [hnn] at hc hn hb HC ⊢
    clear hH hnn
    have b1 : (a : Int) ≤ (c : Int) := by omega
    have b2 : (b : Int) ≤ (c : Int) := by omega
    have b3 : (a : Int) ≤ (b : Int) := by omega
    have main : ∀ (q : Nat), (∀ j, a + j < b → q = a) → Aside (∀ j, a + j < b → w.cell? ⟨g, q + j, none⟩ = some (.int .i64 xs[a + j]!)) := fun q hq j hj => by rw [hq j hj]; exact HC.out (a + j) (by omega)
    by_cases hca : c = a
    · obtain rfl : a = c := hca.symm
      clear hca
      go_enter Try.func70, Try.ntmps70
      go_wp2_with fail
      go_loopw [15] (fun vi wr => ∃ i : Nat, vi = .int .i64 i ∧ i ≤ a ∧ Aside (w = wr) ∧ Aside (∀ i', i' < i → ∀ j, a ≤ j → j < b → xs[i']! ≤ xs[j]!)) (fun vi _ => a - (intOf vi).toNat)
      case atStart => exact ⟨0, by go_num, Nat.zero_le _, by first | rfl | exact True.intro | trivial, (fun i' h => by omega)⟩
      case round =>
        obtain ⟨i, rfl, hia, hww, hP⟩ := hrel
        obtain rfl := hww.out
        by_cases hlt : i < a
        · have ci := HC.out i (by omega)
          obtain ⟨x, hx⟩ : ∃ x, x = xs[i]! := ⟨_, rfl⟩
          rw [← hx] at ci
          have HX := aside hx
          clear hx
          go_wp2_with fail
          go_loopw [24] (fun vj wr => ∃ j : Nat, vj = .int .i64 j ∧ a + j ≤ b ∧ Aside (w = wr) ∧ Aside (∀ j', j' < j → x ≤ xs[a + j']!)) (fun vj _ => b - a - (intOf vj).toNat)
          case atStart => exact ⟨0, by go_num, by omega, by first | rfl | exact True.intro | trivial, (fun j' h => by omega)⟩
          case round =>
            obtain ⟨j, rfl, hjb, hww, hQ⟩ := hrel
            obtain rfl := hww.out
            by_cases hjl : a + j < b
            · have hjl' : (j : Int) < (b : Int) - (a : Int) := by omega
              have cj := HC.out (a + j) (by omega)
              obtain ⟨y, hy⟩ : ∃ y, y = xs[a + j]! := ⟨_, rfl⟩
              rw [← hy] at cj
              have HY := aside hy
              clear hy
              first
                | (exfalso; omega)
                | (by_cases hgt : x > y
                   · go_wp2_with fail
                     go_ret
                     exact ⟨false, rfl, (fun h => by cases h), rfl⟩
                   · go_wp2_with fail
                     go_roundw
                     case rel =>
                       refine ⟨j + 1, by go_num, by omega, by first | rfl | exact True.intro | trivial, fun j' h => ?_⟩
                       by_cases e : j' = j
                       · subst e; rw [← HY.out]; omega
                       · exact hQ.out j' (by omega)
                     case measure => simp [intOf]; omega)
            · have hjl' : ¬ (j : Int) < (b : Int) - (a : Int) := by omega
              go_wp2_with fail
              go_roundw
              case rel =>
                refine ⟨i + 1, by go_num, by omega, by first | rfl | exact True.intro | trivial, fun i' h j2 h1 h2 => ?_⟩
                by_cases e : i' = i
                · subst e
                  rw [← HX.out]
                  have := hQ.out (j2 - a) (by omega)
                  rwa [show a + (j2 - a) = j2 by omega] at this
                · exact hP.out i' (by omega) j2 h1 h2
              case measure => simp [intOf]; omega
        · go_wp2_with fail
          go_ret
          exact ⟨true, rfl, fun _ i' h => hP.out i' (by omega), rfl⟩
    · have hca' : ¬ a = c := fun h => hca h.symm
      go_enter Try.func70, Try.ntmps70
      go_wp2_with fail
      go_loopw [15] (fun vi wr => ∃ i : Nat, vi = .int .i64 i ∧ i ≤ a ∧ Aside (w = wr) ∧ Aside (∀ i', i' < i → ∀ j, a ≤ j → j < b → xs[i']! ≤ xs[j]!)) (fun vi _ => a - (intOf vi).toNat)
      case atStart => exact ⟨0, by go_num, Nat.zero_le _, by first | rfl | exact True.intro | trivial, (fun i' h => by omega)⟩
      case round =>
        obtain ⟨i, rfl, hia, hww, hP⟩ := hrel
        obtain rfl := hww.out
        by_cases hlt : i < a
        · have ci := HC.out i (by omega)
          obtain ⟨x, hx⟩ : ∃ x, x = xs[i]! := ⟨_, rfl⟩
          rw [← hx] at ci
          have HX := aside hx
          clear hx
          go_wp2_with fail
          go_loopw [24] (fun vj wr => ∃ j : Nat, vj = .int .i64 j ∧ a + j ≤ b ∧ Aside (w = wr) ∧ Aside (∀ j', j' < j → x ≤ xs[a + j']!)) (fun vj _ => b - a - (intOf vj).toNat)
          case atStart => exact ⟨0, by go_num, by omega, by first | rfl | exact True.intro | trivial, (fun j' h => by omega)⟩
          case round =>
            obtain ⟨j, rfl, hjb, hww, hQ⟩ := hrel
            obtain rfl := hww.out
            by_cases hjl : a + j < b
            · have hjl' : (j : Int) < (b : Int) - (a : Int) := by omega
              have cj := HC.out (a + j) (by omega)
              obtain ⟨y, hy⟩ : ∃ y, y = xs[a + j]! := ⟨_, rfl⟩
              rw [← hy] at cj
              have HY := aside hy
              clear hy
              first
                | (exfalso; omega)
                | (by_cases hgt : x > y
                   · go_wp2_with fail
                     go_ret
                     exact ⟨false, rfl, (fun h => by cases h), rfl⟩
                   · go_wp2_with fail
                     go_roundw
                     case rel =>
                       refine ⟨j + 1, by go_num, by omega, by first | rfl | exact True.intro | trivial, fun j' h => ?_⟩
                       by_cases e : j' = j
                       · subst e; rw [← HY.out]; omega
                       · exact hQ.out j' (by omega)
                     case measure => simp [intOf]; omega)
            · have hjl' : ¬ (j : Int) < (b : Int) - (a : Int) := by omega
              go_wp2_with fail
              go_roundw
              case rel =>
                refine ⟨i + 1, by go_num, by omega, by first | rfl | exact True.intro | trivial, fun i' h j2 h1 h2 => ?_⟩
                by_cases e : i' = i
                · subst e
                  rw [← HX.out]
                  have := hQ.out (j2 - a) (by omega)
                  rwa [show a + (j2 - a) = j2 by omega] at this
                · exact hP.out i' (by omega) j2 h1 h2
              case measure => simp [intOf]; omega
        · go_wp2_with fail
          go_ret
          exact ⟨true, rfl, fun _ i' h => hP.out i' (by omega), rfl⟩

def AheadItemsPost (d : Array (Int × Int)) (a b : Nat) (w : World) (e : Ending) (w' : World) : Prop := ∃ r : Bool, e = .returned (.bool r) ∧ (r = true → Sort.Below ltK a b d) ∧ Below w.heap.size w w'
set_option maxHeartbeats 1000000 in
theorem aheadItems_any (v : Value) (d : Array (Int × Int)) (w : World) (B : Nat) (hv : Lst w B v d) (hB : B ≤ w.heap.size) (hn : d.size ≤ 4096) (a b : Nat) (hab : a ≤ b) (hb : b ≤ d.size) :
    Calls Try.prog 43 #[v, .int .i64 a, .int .i64 b] w (AheadItemsPost d a b w) := by
  have hk := aside (keys_any v d w B hv hB hn)
  have hs : (keysOf d).size = d.size := keysOf_size d
  have hA := aside (fun v1 w1 ho => ahead_any v1 (keysOf d) w1 w.heap.size ho (by omega) a b hab (by omega))
  have HT : Aside (∀ r : Bool, (r = true → ∀ i, i < a → ∀ j, a ≤ j → j < b → (keysOf d)[i]! ≤ (keysOf d)[j]!) → (r = true → Sort.Below ltK a b d)) := by
    intro r h hr
    rcases Nat.eq_zero_or_pos a with h0 | h0
    · exact .inl h0
    · refine .inr fun i h1 h2 => ?_
      have := h hr (a - 1) (by omega) i h1 h2
      rw [keysOf_get d _ (by omega), keysOf_get d _ (by omega)] at this
      simp only [ltK, decide_eq_false_iff_not]
      omega
  clear hv hs
  go_enter Try.func43, Try.ntmps43
  go_wp2_with fail
  refine hk.out.mono ?_
  rintro e w1 ⟨v1, rfl, ho, hb1⟩
  go_wp2_with fail
  refine (hA.out v1 w1 ho).mono ?_
  rintro e w2 ⟨r, rfl, hr, hw⟩
  have HR := aside (HT.out r hr)
  obtain rfl : w1 = w2 := hw
  clear hr HT hA hk
  go_wp2_with fail
  go_ret
  exact ⟨r, rfl, HR.out, hb1⟩
end Go.Proofs.Ytaifmeajfldckaa
