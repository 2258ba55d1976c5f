/- spec.Keys, slices.IsSorted and cmp.Less at numbers, spec.SortedKeys, sort.IsSorted: whether the keys of items do not fall. Condition: at most 4096 items. -/
import Derived.Test.YtaifmeajfldckaaCopy
namespace Go.Proofs.Ytaifmeajfldckaa
open Go.RowKit Go.Sort Go.Proofs

/-- v is a slice of the numbers xs, in a block below B. -/
def LstN (w : World) (B : Nat) (v : Value) (xs : Array Int) : Prop :=
  ∃ A c, v = .slice A xs.size c ∧ xs.size ≤ c ∧ c ≤ maxLen ∧ (xs.size = 0 ∨ ∃ b off, A = some ⟨b, off, none⟩ ∧ b < B ∧ ∀ i, i < xs.size → w.cell? ⟨b, off + i, none⟩ = some (.int .i64 xs[i]!))
/-- v is a slice of the numbers xs that lies at the head of a block of its own, from 'base' on; nil if it is empty. -/
def OwnN (w : World) (base : Nat) (v : Value) (xs : Array Int) : Prop :=
  (xs.size = 0 ∧ v = .slice none 0 0) ∨ ∃ g c, v = .slice (some ⟨g, 0, none⟩) xs.size c ∧ xs.size ≤ c ∧ c ≤ maxLen ∧ base ≤ g ∧ g < w.heap.size ∧ Holds (Value.int .i64) w g 0 xs

variable {w w' : World} {B base : Nat} {v : Value} {xs : Array Int}
theorem LstN.below (h : LstN w B v xs) (hb : Below B w w') : LstN w' B v xs := by
  obtain ⟨A, c, rfl, hc, hm, h⟩ := h
  refine ⟨A, c, rfl, hc, hm, h.imp id ?_⟩
  rintro ⟨b, off, rfl, hbB, hcell⟩
  exact ⟨b, off, rfl, hbB, fun i hi => (hb.cell (p := ⟨b, off + i, none⟩) hbB).trans (hcell i hi)⟩
theorem holdsN_of_block {g : Nat} (h : Holds (Value.int .i64) w g 0 xs) (e : w'.heap[g]? = w.heap[g]?) : Holds (Value.int .i64) w' g 0 xs :=
  fun j hj => ⟨(World.cell?_of_block (w := w) (a := ⟨g, 0 + j, none⟩) e).trans (h j hj).1, (World.frozen?_of_block (w := w) (a := ⟨g, 0 + j, none⟩) e).trans (h j hj).2⟩
theorem OwnN.lst (h : OwnN w base v xs) (hB : w.heap.size ≤ B) : LstN w B v xs := by
  rcases h with ⟨h0, rfl⟩ | ⟨g, c, rfl, hc, hm, _, hg, hH⟩
  · exact ⟨none, 0, by rw [h0], by omega, by simp [maxLen], .inl h0⟩
  · exact ⟨_, _, rfl, hc, hm, .inr ⟨g, 0, rfl, by omega, fun i hi => (hH i hi).1⟩⟩
theorem OwnN.below (h : OwnN w base v xs) (hb : Below w.heap.size w w') : OwnN w' base v xs := by
  rcases h with h | ⟨g, c, rfl, hc, hm, hbg, hg, hH⟩
  · exact .inl h
  · exact .inr ⟨g, c, rfl, hc, hm, hbg, Nat.lt_of_lt_of_le hg hb.size, holdsN_of_block hH (hb.block g hg)⟩
theorem ownN_of_owns {e n : Nat} (h : w.ownsRow base e 1 v n (xs.toList.map (Value.int .i64))) (hn : n = xs.size) (h0 : xs.size = 0 → v = .slice none 0 0) : OwnN w base v xs := by
  subst hn
  by_cases c0 : xs.size = 0
  · exact .inl ⟨c0, h0 c0⟩
  · have h' := h
    rcases h.2 with ⟨_, hz⟩ | ⟨g, cap, cur, rfl, hb, hg, hc, hm, hs, ht⟩
    · omega
    · refine .inr ⟨g, cap, rfl, hc, hm, hb, (Array.getElem?_eq_some_iff.1 hg).1, fun j hj => ?_⟩
      rw [Nat.zero_add]
      refine ⟨?_, h'.frozenAt j⟩
      rw [h'.cellAt j (by omega), List.getElem?_map, List.getElem?_eq_getElem (by simpa using hj)]
      simp [hj]

/-- The keys. -/
def keysOf (d : Array (Int × Int)) : Array Int := d.map (·.1)
theorem keysOf_size (d : Array (Int × Int)) : (keysOf d).size = d.size := by simp [keysOf]
theorem keysOf_get (d : Array (Int × Int)) (i : Nat) (h : i < d.size) : (keysOf d)[i]! = d[i]!.1 := by simp [keysOf, h]
def keyVals (d : Array (Int × Int)) : List Value := (keysOf d).toList.map (Value.int .i64)
theorem keyVals_len (d : Array (Int × Int)) : (keyVals d).length = d.size := by simp [keyVals, keysOf]
theorem keys_snoc (d : Array (Int × Int)) (k : Nat) (h : k < d.size) : (keyVals d).take (k + 1) = (keyVals d).take k ++ [.int .i64 d[k]!.1] := by
  rw [List.take_succ_eq_append_getElem (by rw [keyVals_len]; exact h)]
  simp [keyVals, keysOf, h]

theorem int_info : (Try.prog.info? 3).map (fun i => (i.zero, i.size, i.bytes)) = some (some (.int .i64 0), 1, 8) := by kernel_rfl
set_option maxHeartbeats 4000000 in
set_option maxRecDepth 100000 in
theorem keys_any (v : Value) (d : Array (Int × Int)) (w : World) (B : Nat) (hv : Lst w B v d) (hB : B ≤ w.heap.size) (hn : d.size ≤ 4096) :
    Calls Try.prog 32 #[v] w fun e w' => ∃ v', e = .returned v' ∧ OwnN w' w.heap.size v' (keysOf d) ∧ Below w.heap.size w w' := by
  obtain ⟨i0, hi, hz0, hz1, hz2⟩ := info_parts int_info
  obtain ⟨A, c, rfl, hc, hm, h⟩ := hv
  rcases h with h0 | ⟨b, off, rfl, hbB, hcell⟩
  · rw [h0]
    go_enter Try.func32, Try.ntmps32
    go_wp2
    go_rounds 1
    go_ret
    exact ⟨_, rfl, .inl ⟨by rw [keysOf_size, h0], rfl⟩, Below.refl _ _⟩
  · have HC : Aside _ := hcell
    clear hcell
    obtain ⟨n, hnd⟩ : ∃ n, d.size = n := ⟨_, rfl⟩
    rw [hnd] at hc hn ⊢
    have HN : Aside _ := hnd
    clear hnd
    go_enter Try.func32, Try.ntmps32
    go_wp2
    go_loopw [3, 8] (fun vo vi wr => ∃ k : Nat, k ≤ n ∧ vi = .int .i64 k ∧ wr.ownsRow w.heap.size 3 1 vo k ((keyVals d).take k) ∧ Below w.heap.size w wr ∧ Aside (k = 0 → vo = .slice none 0 0)) (fun _ vi _ => n - (intOf vi).toNat)
    case atStart => exact ⟨0, Nat.zero_le _, rfl, World.ownsRow_nil _ _ _ _, Below.refl _ _, fun _ => rfl⟩
    case round =>
      obtain ⟨k, hk, rfl, hown, hnx, hnil⟩ := hrel
      by_cases hlt : k < n
      · have c0 := (hnx.cell (p := ⟨b, off + k * 2, none⟩) (by exact Nat.lt_of_lt_of_le hbB hB)).trans (HC.out k (by rw [HN.out]; exact hlt)).1
        have c1 := (hnx.cell (p := ⟨b, off + k * 2 + 1, none⟩) (by exact Nat.lt_of_lt_of_le hbB hB)).trans (HC.out k (by rw [HN.out]; exact hlt)).2
        have HS : Aside _ := keys_snoc d k (by rw [HN.out]; exact hlt)
        generalize d[k]!.1 = x0 at c0 HS
        generalize d[k]!.2 = x1 at c1
        have hsz := hnx.size
        go_wp2_with (at_builtin; refine wpList_append_own _ rfl _ _ 35 rfl w.heap.size 3 i0 (.int .i64 0) 1 8 Try.underlying35 hi hz0 hz1 hz2 rfl (by decide) _ _ _ rfl ((hown.alloc _).alloc _) ⟨wr.heap.size + 1, 0, none⟩ 1 1 [.int .i64 x0] rfl rfl ?c1 ?c2 ?c3 ?c4 ?c5 ?_)
        case c1 =>
          intro j u hj
          match j, hj with
          | 0, hj => simp at hj; subst hj; simp [Addr.add]
        case c2 => intro u hu; simp at hu; subst hu; rfl
        case c3 => unfold maxLen; omega
        case c4 => omega
        case c5 => simp; omega
        · intro v' w1 hown' hgrow hv'
          have hb2 : Below w.heap.size w w1 := ((hnx.alloc hsz _).alloc (by simp; omega) _).grown hgrow (by simp; omega) (fun q hq => (hown.lt q hq).1)
          have HN2 : Aside (k + 1 = 0 → v' = .slice none 0 0) := fun e => by omega
          rw [← HS.out] at hown'
          clear hown hgrow hnx hnil c0 c1 HS hv'
          go_wp2
          go_roundw
          case rel => exact ⟨k + 1, by omega, by go_num, hown', hb2, HN2⟩
          case measure => simp [intOf]; omega
      · go_wp2
        go_ret
        obtain rfl : k = n := by omega
        refine ⟨_, rfl, ?_, hnx⟩
        refine ownN_of_owns (n := k) (xs := keysOf d) (e := 3) ?_ (by rw [keysOf_size, HN.out]) (fun e => hnil.out (by rw [keysOf_size, HN.out] at e; exact e))
        rwa [List.take_of_length_le (by rw [keyVals_len, HN.out]; exact Nat.le_refl _)] at hown

/-! ### In order -/
/-- 'for i := k; i > 0; i-- { if less(i, i-1) { return false } }; return true'. -/
def chain (p : Nat → Bool) : Nat → Bool
  | 0 => true
  | k + 1 => if p (k + 1) then false else chain p k
theorem chain_congr {p q : Nat → Bool} : ∀ k, (∀ i, 0 < i → i ≤ k → p i = q i) → chain p k = chain q k := by
  intro k
  induction k with
  | zero => intro _; rfl
  | succ k ih => intro h; rw [chain, chain, h (k + 1) (by omega) (by omega), ih (fun i h1 h2 => h i h1 (by omega))]

set_option maxHeartbeats 1000000 in
theorem cmpLess_any (x y : Int) (w : World) : Calls Try.prog 74 #[.int .i64 x, .int .i64 y] w fun e w' => e = .returned (.bool (decide (x < y))) ∧ w' = w := by
  go_enter Try.func74, Try.ntmps74
  go_wp2
  go_ret
  exact ⟨rfl, rfl⟩

set_option maxHeartbeats 4000000 in
set_option maxRecDepth 100000 in
theorem isSortedInts_any (v : Value) (xs : Array Int) (w : World) (B : Nat) (hv : LstN w B v xs) (hn : xs.size ≤ 4096) :
    Calls Try.prog 49 #[v] w fun e w' => e = .returned (.bool (chain (fun i => decide (xs[i]! < xs[i - 1]!)) (xs.size - 1))) ∧ ∃ q, w' = w.drewN q := by
  obtain ⟨A, c, rfl, hc, hm, h⟩ := hv
  by_cases h1 : xs.size ≤ 1
  · obtain ⟨n, hnd⟩ : ∃ n, xs.size = n := ⟨_, rfl⟩
    rw [hnd] at h1 ⊢
    rw [show n - 1 = 0 by omega]
    clear h
    go_enter Try.func49, Try.ntmps49
    go_wp2
    go_rounds 1
    go_ret
    exact ⟨rfl, 0, rfl⟩
  · rcases h with h0 | ⟨b, off, rfl, hbB, hcell⟩
    · omega
    · have HC : Aside _ := hcell
      clear hcell
      obtain ⟨n, hnd⟩ : ∃ n, xs.size = n := ⟨_, rfl⟩
      rw [hnd] at hc hn h1 ⊢
      have HN : Aside _ := hnd
      clear hnd
      go_enter Try.func49, Try.ntmps49
      go_wp2
      go_loopw [3] (fun vi wr => ∃ k : Nat, k < n ∧ vi = .int .i64 k ∧ Aside (∃ q, wr = w.drewN q) ∧ Aside (chain (fun i => decide (xs[i]! < xs[i - 1]!)) k = chain (fun i => decide (xs[i]! < xs[i - 1]!)) (n - 1))) (fun vi _ => (intOf vi).toNat)
      case atStart => exact ⟨n - 1, by omega, by congr 1; omega, ⟨0, rfl⟩, rfl⟩
      case round =>
        obtain ⟨k, hk, rfl, hQ, hO⟩ := hrel
        have hcr : Aside (∀ i, i < xs.size → wr.cell? ⟨b, off + i, none⟩ = some (.int .i64 xs[i]!)) := by
          obtain ⟨q, rfl⟩ := hQ.out
          exact HC.out
        by_cases hlt : 0 < k
        · have c0 := hcr.out k (by rw [HN.out]; exact hk)
          have c1 := hcr.out (k - 1) (by rw [HN.out]; omega)
          obtain ⟨x, hx⟩ : ∃ x, xs[k]! = x := ⟨_, rfl⟩
          obtain ⟨y, hy⟩ : ∃ y, xs[k - 1]! = y := ⟨_, rfl⟩
          rw [hx] at c0
          rw [hy] at c1
          have HX : Aside _ := hx
          have HY : Aside _ := hy
          clear hx hy
          have e1 : ((k : Int) - 1).toNat = k - 1 := by omega
          have e2 : (0 : Int) ≤ (k : Int) - 1 := by omega
          have e3 : IntKind.i64.wrap ((k : Int) - 1) = (k : Int) - 1 := by rw [IntKind.wrap_i64]; omega
          have e4 : (k : Int) - 1 < (n : Int) := by omega
          have e5 : (1 : Int) ≤ (k : Int) := by omega
          by_cases hxy : x < y
          · have hd : decide (x < y) = true := decide_eq_true hxy
            go_wp2_with fail
            go_quiet ((go_at_call 74; exact Calls.quiet_of_same (cmpLess_any _ _ _)))
            go_wp2
            go_ret
            refine ⟨?_, by obtain ⟨q, rfl⟩ := hQ.out; exact ⟨_, World.drewN_drewN _ _ _⟩⟩
            rw [← hO.out]
            obtain ⟨k', rfl⟩ : ∃ k', k = k' + 1 := ⟨k - 1, by omega⟩
            rw [chain, HX.out, HY.out, if_pos hd]
            rfl
          · have hd : decide (x < y) = false := decide_eq_false hxy
            go_wp2_with fail
            go_quiet ((go_at_call 74; exact Calls.quiet_of_same (cmpLess_any _ _ _)))
            go_wp2
            go_roundw
            case rel =>
              refine ⟨k - 1, by omega, by congr 1; omega, by obtain ⟨q, rfl⟩ := hQ.out; exact ⟨_, World.drewN_drewN _ _ _⟩, ?_⟩
              refine Eq.trans ?_ hO.out
              obtain ⟨k', rfl⟩ : ∃ k', k = k' + 1 := ⟨k - 1, by omega⟩
              rw [chain.eq_2, HX.out, HY.out, hd]
              rfl
            case measure => simp [intOf]; omega
        · go_wp2
          go_ret
          refine ⟨?_, hQ.out⟩
          rw [← hO.out, show k = 0 by omega]; rfl

/-- The keys of the items do not fall. -/
def inOrder (lt : (Int × Int) → (Int × Int) → Bool) (d : Array (Int × Int)) : Bool := chain (fun i => lt d[i]! d[i - 1]!) (d.size - 1)

set_option maxHeartbeats 1000000 in
theorem sortedKeys_any (v : Value) (d : Array (Int × Int)) (w : World) (B : Nat) (hv : Lst w B v d) (hB : B ≤ w.heap.size) (hn : d.size ≤ 4096) :
    Calls Try.prog 20 #[v] w fun e w' => e = .returned (.bool (inOrder ltK d)) ∧ Below w.heap.size w w' := by
  have e : inOrder ltK d = chain (fun i => decide ((keysOf d)[i]! < (keysOf d)[i - 1]!)) ((keysOf d).size - 1) := by
    unfold inOrder
    rw [keysOf_size]
    exact chain_congr _ fun i h1 h2 => by rw [keysOf_get _ _ (by omega), keysOf_get _ _ (by omega)]; rfl
  rw [e]
  go_enter Try.func20, Try.ntmps20
  go_wp2_with fail
  refine (keys_any v d w B hv hB hn).mono ?_
  rintro e w1 ⟨v1, rfl, ho, hb⟩
  go_wp2_with fail
  refine (isSortedInts_any v1 (keysOf d) w1 _ (ho.lst (Nat.le_refl _)) (by rw [keysOf_size]; exact hn)).mono ?_
  rintro e w2 ⟨rfl, q, rfl⟩
  go_wp2_with fail
  go_ret
  exact ⟨rfl, hb.trans ((below_drewN w1 q).mono hb.size)⟩

section
variable {lt : (Int × Int) → (Int × Int) → Bool} {T : TypeId} {rv : Value} {gl gs gn : Nat} {rl rs rn : Value} {blk n : Nat}
set_option maxHeartbeats 4000000 in
set_option maxRecDepth 100000 in
theorem isSorted_any (d : Array (Int × Int)) (w : World) (M : Meth lt T rv gl gs gn rl rs rn blk n w) (h : Tn blk d w w) (hs : d.size = n) :
    Calls Try.prog 47 #[.iface T rv] w fun e w' => e = .returned (.bool (inOrder lt d)) ∧ Tn blk d w w' := by
  have hn := M.hn
  have el := M.el
  have en := M.en
  have ml := M.ml
  have mn := M.mn
  have HM : Aside _ := M
  have H : Aside _ := h
  have HS : Aside _ := hs
  have o := h.on
  clear M h hs
  obtain ⟨r, hr⟩ : ∃ r, inOrder lt d = r := ⟨_, rfl⟩
  rw [hr]
  have HR : Aside _ := hr
  clear hr
  go_enter Try.func47, Try.ntmps47
  go_wp2_with fail
  refine (HM.out.lenAt H.out HS.out).mono ?_
  rintro e w1 ⟨rfl, T1, o1, -⟩
  go_wp2_with fail
  go_loopw [4] (fun vi wr => ∃ (z : Int) (k : Nat), vi = .int .i64 z ∧ -1 ≤ z ∧ k = z.toNat ∧ k ≤ n - 1 ∧ Aside (Tn blk d w wr) ∧ Aside (chain (fun i => lt d[i]! d[i - 1]!) k = r)) (fun vi _ => (intOf vi).toNat)
  case atStart => exact ⟨(n : Int) - 1, n - 1, rfl, by omega, by omega, by omega, T1, by rw [← HR.out, inOrder, HS.out]; exact rfl⟩
  case round =>
    obtain ⟨z, k, rfl, hz, hk, hkn, hT, hO⟩ := hrel
    have HK : Aside _ := hk
    have oo := hT.out.on
    by_cases hlt : 0 < z
    · have hzk : z = (k : Int) := by omega
      have hk1 : 0 < k := by omega
      clear hk
      subst hzk
      cases hl : lt d[k]! d[k - 1]! with
      | true =>
        have HL : Aside _ := hl
        clear hl
        go_wp2_with fail
        refine (HM.out.lessAt hT.out HS.out k (k - 1) (by omega) (by omega) HL.out (by omega) (by omega)).mono ?_
        rintro e w2 ⟨rfl, T2, o2, -⟩
        go_wp2_with fail
        go_ret
        refine ⟨?_, T2⟩
        rw [← hO.out]
        obtain ⟨k', rfl⟩ : ∃ k', k = k' + 1 := ⟨k - 1, by omega⟩
        rw [chain, HL.out, if_pos rfl]
        rfl
      | false =>
        have HL : Aside _ := hl
        clear hl
        go_wp2_with fail
        refine (HM.out.lessAt hT.out HS.out k (k - 1) (by omega) (by omega) HL.out (by omega) (by omega)).mono ?_
        rintro e w2 ⟨rfl, T2, o2, -⟩
        go_wp2_with fail
        go_roundw
        case rel =>
          refine ⟨(k : Int) - 1, k - 1, rfl, by omega, by omega, by omega, T2, ?_⟩
          refine Eq.trans ?_ hO.out
          obtain ⟨k', rfl⟩ : ∃ k', k = k' + 1 := ⟨k - 1, by omega⟩
          rw [chain.eq_2, HL.out]
          rfl
        case measure => simp [intOf]; omega
    · have hk0 : k = 0 := by omega
      clear hk
      go_wp2_with fail
      go_ret
      refine ⟨?_, hT.out⟩
      rw [← hO.out, hk0]
      rfl
end
end Go.Proofs.Ytaifmeajfldckaa
