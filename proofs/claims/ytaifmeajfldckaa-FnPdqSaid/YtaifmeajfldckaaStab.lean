/- The stable half of sorting sorts stably: symMerge of two sorted parts and stable give just what insertion gives. Condition: 'less' is a strict weak order. No program in sight. -/
import Derived.Test.YtaifmeajfldckaaPlain
import Derived.Sort.AssemblyPlain
namespace Go.Proofs.Ytaifmeajfldckaa
open Go.Sort
namespace Pl
variable {α : Type} [Inhabited α]

/-! ### Segments -/
def seg (d : Array α) (a b : Nat) : List α := (List.range' a (b - a)).map (fun i => d[i]!)
theorem seg_append (d : Array α) {a m b : Nat} (h1 : a ≤ m) (h2 : m ≤ b) : seg d a b = seg d a m ++ seg d m b := by
  unfold seg
  rw [← List.map_append]
  congr 1
  have := List.range'_append_1 (s := a) (m := m - a) (n := b - m)
  rw [show a + (m - a) = m by omega, show m - a + (b - m) = b - a by omega] at this
  exact this.symm
theorem seg_congr {d d' : Array α} {a b : Nat} (h : ∀ i, a ≤ i → i < b → d'[i]! = d[i]!) : seg d' a b = seg d a b :=
  List.map_congr_left fun i hi => by have := List.mem_range'_1.1 hi; exact h i this.1 (by omega)
theorem seg_shift {d d' : Array α} {a b k : Nat} (h : ∀ i, a ≤ i → i < b → d'[i]! = d[i + k]!) : seg d' a b = seg d (a + k) (b + k) := by
  unfold seg
  rw [show b + k - (a + k) = b - a by omega]
  apply List.ext_getElem
  · simp
  · intro i h1 _
    have hi : i < b - a := by simpa using h1
    simp only [List.getElem_map, List.getElem_range', Nat.one_mul]
    rw [h _ (by omega) (by omega)]; congr 1; omega
theorem mem_seg {d : Array α} {a b : Nat} {x : α} : x ∈ seg d a b ↔ ∃ i, a ≤ i ∧ i < b ∧ d[i]! = x := by
  unfold seg
  constructor
  · intro h
    obtain ⟨i, hi, e⟩ := List.mem_map.1 h
    have := List.mem_range'_1.1 hi
    exact ⟨i, this.1, by omega, e⟩
  · rintro ⟨i, h1, h2, e⟩
    exact List.mem_map.2 ⟨i, List.mem_range'_1.2 ⟨h1, by omega⟩, e⟩
theorem seg_two (d : Array α) (j : Nat) : seg d j (j + 2) = [d[j]!, d[j + 1]!] := by
  unfold seg; rw [show j + 2 - j = 2 by omega]; rfl
theorem seg_ext {d d' : Array α} {a b : Nat} (h : seg d' a b = seg d a b) (i : Nat) (h1 : a ≤ i) (h2 : i < b) : d'[i]! = d[i]! := by
  have e : (seg d' a b)[i - a]? = (seg d a b)[i - a]? := by rw [h]
  unfold seg at e
  rw [List.getElem?_map, List.getElem?_map, List.getElem?_range' (by omega)] at e
  simp only [Option.map_some, Option.some.injEq] at e
  rwa [show a + 1 * (i - a) = i by omega] at e
theorem pairwise_seg {R : α → α → Prop} {d : Array α} {a b : Nat} (h : ∀ i j, a ≤ i → i < j → j < b → R d[i]! d[j]!) : (seg d a b).Pairwise R := by
  unfold seg
  rw [List.pairwise_map]
  rw [List.pairwise_iff_getElem]
  intro i j hi hj hij
  simp only [List.length_range'] at hi hj
  simp only [List.getElem_range', Nat.one_mul]
  exact h _ _ (by omega) (by omega) (by omega)

section
variable (lt : α → α → Bool)
def eqv (x y : α) : Bool := !lt x y && !lt y x
/-- For each key the same elements in the same order. -/
def StEq (l l' : List α) : Prop := ∀ x, l.filter (eqv lt x) = l'.filter (eqv lt x)
structure Good (a b : Nat) (d d' : Array α) : Prop where
  size : d'.size = d.size
  out : ∀ i, i < a ∨ b ≤ i → d'[i]! = d[i]!
  st : StEq lt (seg d' a b) (seg d a b)
end
variable {lt : α → α → Bool}
omit [Inhabited α] in
theorem StEq.refl (l : List α) : StEq lt l l := fun _ => rfl
omit [Inhabited α] in
theorem StEq.symm {l l' : List α} (h : StEq lt l l') : StEq lt l' l := fun x => (h x).symm
omit [Inhabited α] in
theorem StEq.trans {l l' l'' : List α} (h : StEq lt l l') (k : StEq lt l' l'') : StEq lt l l'' := fun x => (h x).trans (k x)
omit [Inhabited α] in
theorem StEq.append {l l' m m' : List α} (h : StEq lt l l') (k : StEq lt m m') : StEq lt (l ++ m) (l' ++ m') := fun x => by
  rw [List.filter_append, List.filter_append, h x, k x]
omit [Inhabited α] in
theorem eqv_iff {x y : α} : eqv lt x y = true ↔ lt x y = false ∧ lt y x = false := by simp [eqv]
omit [Inhabited α] in
theorem eqv_self (hS : SWO lt) (x : α) : eqv lt x x = true := eqv_iff.2 ⟨hS.irrefl x, hS.irrefl x⟩
omit [Inhabited α] in
theorem StEq.mem (hS : SWO lt) {l l' : List α} (h : StEq lt l l') {x : α} (hx : x ∈ l) : x ∈ l' := by
  have h1 : x ∈ l.filter (eqv lt x) := List.mem_filter.2 ⟨hx, eqv_self hS x⟩
  rw [h x] at h1
  exact (List.mem_filter.1 h1).1
omit [Inhabited α] in
/-- Two parts, all of the second less than all of the first, may be exchanged. -/
theorem StEq.swap (hS : SWO lt) {u v : List α} (h : ∀ x ∈ u, ∀ y ∈ v, lt y x = true) : StEq lt (v ++ u) (u ++ v) := by
  intro z
  rw [List.filter_append, List.filter_append]
  by_cases hu : u.filter (eqv lt z) = []
  · rw [hu]; simp
  · have hv : v.filter (eqv lt z) = [] := by
      rw [List.filter_eq_nil_iff]
      intro y hy hzy
      obtain ⟨x, hx⟩ := List.exists_mem_of_ne_nil _ hu
      obtain ⟨hx1, hx2⟩ := List.mem_filter.1 hx
      have a1 := (eqv_iff.1 hzy).2
      have a2 := (eqv_iff.1 hx2).1
      have := hS.ntrans y z x a1 a2
      rw [h x hx1 y hy] at this
      cases this
    rw [hv]; simp
omit [Inhabited α] in
theorem sorted_eq (hS : SWO lt) : ∀ l l' : List α, l.Pairwise (fun x y => lt y x = false) → l'.Pairwise (fun x y => lt y x = false) → StEq lt l l' → l = l'
  | [], [], _, _, _ => rfl
  | [], y :: t, _, _, h => by
    have := h y
    rw [List.filter_cons_of_pos (eqv_self hS y)] at this
    cases this
  | x :: t, [], _, _, h => by
    have := h x
    rw [List.filter_cons_of_pos (eqv_self hS x)] at this
    cases this
  | x :: t, y :: t', h1, h2, h => by
    have low : ∀ (p q : α) (s s' : List α), (p :: s).Pairwise (fun x y => lt y x = false) → StEq lt (q :: s') (p :: s) → lt q p = false := by
      intro p q s s' hp hs
      have hm : q ∈ p :: s := StEq.mem hS hs (List.mem_cons_self)
      rcases List.mem_cons.1 hm with e | e
      · rw [e]; exact hS.irrefl p
      · exact (List.pairwise_cons.1 hp).1 q e
    have e1 := low x y t t' h1 h.symm
    have e2 := low y x t' t h2 h
    have hxy : eqv lt x y = true := eqv_iff.2 ⟨e2, e1⟩
    have hx := h x
    rw [List.filter_cons_of_pos (eqv_self hS x), List.filter_cons_of_pos hxy] at hx
    injection hx with hh _
    subst hh
    congr 1
    refine sorted_eq hS t t' (List.pairwise_cons.1 h1).2 (List.pairwise_cons.1 h2).2 fun z => ?_
    have hz := h z
    by_cases c : eqv lt z x = true
    · rw [List.filter_cons_of_pos c, List.filter_cons_of_pos c] at hz
      injection hz
    · rw [List.filter_cons_of_neg c, List.filter_cons_of_neg c] at hz
      exact hz

theorem Good.refl (a b : Nat) (d : Array α) : Good lt a b d d := ⟨rfl, fun _ _ => rfl, StEq.refl _⟩
theorem Good.trans {a b : Nat} {d d' d'' : Array α} (h : Good lt a b d d') (k : Good lt a b d' d'') : Good lt a b d d'' :=
  ⟨k.size.trans h.size, fun i hi => (k.out i hi).trans (h.out i hi), k.st.trans h.st⟩
theorem Good.mono {a b a' b' : Nat} {d d' : Array α} (h : Good lt a b d d') (ha : a' ≤ a) (hab : a ≤ b) (hb : b ≤ b') : Good lt a' b' d d' := by
  refine ⟨h.size, fun i hi => h.out i (by omega), ?_⟩
  rw [seg_append d' (m := a) ha (by omega), seg_append d (m := a) ha (by omega), seg_append d' (a := a) hab hb, seg_append d (a := a) hab hb,
    seg_congr (d := d) (d' := d') (a := a') (b := a) (fun i _ h2 => h.out i (Or.inl h2)), seg_congr (d := d) (d' := d') (a := b) (b := b') (fun i h1 _ => h.out i (Or.inr h1))]
  exact (StEq.refl _).append (h.st.append (StEq.refl _))
theorem Good.uniq (hS : SWO lt) {a b : Nat} {d d1 d2 : Array α} (h1 : Good lt a b d d1) (h2 : Good lt a b d d2) (s1 : SortedIn lt a b d1) (s2 : SortedIn lt a b d2) : d1 = d2 := by
  have hs : seg d1 a b = seg d2 a b := sorted_eq hS _ _ (pairwise_seg fun i j h1 h2 h3 => s1 i j h1 h2 h3) (pairwise_seg fun i j h1 h2 h3 => s2 i j h1 h2 h3) (h1.st.trans h2.st.symm)
  apply Array.ext (h1.size.trans h2.size.symm)
  intro i p1 p2
  have : d1[i]! = d2[i]! := by
    by_cases c : a ≤ i ∧ i < b
    · exact seg_ext hs i c.1 c.2
    · rw [h1.out i (by omega), h2.out i (by omega)]
  rwa [getElem!_pos d1 i p1, getElem!_pos d2 i p2] at this
/-- What lies in the range afterwards lay in it before. -/
theorem Good.from (hS : SWO lt) {a b : Nat} {d d' : Array α} (h : Good lt a b d d') {i : Nat} (h1 : a ≤ i) (h2 : i < b) : ∃ j, a ≤ j ∧ j < b ∧ d[j]! = d'[i]! :=
  mem_seg.1 (h.st.mem hS (mem_seg.2 ⟨i, h1, h2, rfl⟩))

/-! ### Insertion -/
theorem swp_good (hS : SWO lt) (d : Array α) {a b j : Nat} (h1 : a ≤ j) (h2 : j + 1 < b) (hb : b ≤ d.size) (hl : lt d[j + 1]! d[j]! = true) : Good lt a b d (swp d (j + 1) j) := by
  have g := fun p => swp_get d (i := j + 1) (j := j) (by omega) (by omega) p
  refine ⟨size_swp _ _ _, fun i hi => by rw [g]; repeat' split
                                         all_goals first | omega | rfl, ?_⟩
  rw [seg_append _ (m := j) h1 (by omega), seg_append _ (a := j) (m := j + 2) (by omega) (by omega), seg_append d (m := j) h1 (by omega), seg_append d (a := j) (m := j + 2) (b := b) (by omega) (by omega),
    seg_congr (d := d) (a := a) (b := j) (fun i _ h => by rw [g]; repeat' split
                                                          all_goals first | omega | rfl),
    seg_congr (d := d) (a := j + 2) (b := b) (fun i h _ => by rw [g]; repeat' split
                                                              all_goals first | omega | rfl)]
  refine (StEq.refl _).append (StEq.append ?_ (StEq.refl _))
  rw [seg_two, seg_two, g, g, if_pos rfl, if_neg (by omega), if_pos rfl]
  exact StEq.swap hS (u := [d[j]!]) (v := [d[j + 1]!]) (by simpa using hl)
theorem insInner_good (hS : SWO lt) (a b : Nat) : ∀ (j : Nat) (d : Array α), j < b → b ≤ d.size → Good lt a b d (insInner lt a j d) := by
  intro j
  induction j with
  | zero => intro d _ _; rw [insInner]; exact Good.refl _ _ _
  | succ j ih =>
    intro d hj hb
    rw [insInner]
    split
    · rename_i h
      simp only [gt_iff_lt, Bool.and_eq_true, decide_eq_true_eq] at h
      have g := swp_good hS d (a := a) (b := b) (j := j) (by omega) hj hb h.2
      exact g.trans (ih _ (by omega) (by rw [size_swp]; exact hb))
    · exact Good.refl _ _ _
theorem insOuter_good (hS : SWO lt) (a b : Nat) : ∀ (k i : Nat) (d : Array α), b - i = k → b ≤ d.size → Good lt a b d (insOuter lt a b i d) := by
  intro k
  induction k with
  | zero => intro i d h _; rw [insOuter, if_neg (by omega)]; exact Good.refl _ _ _
  | succ k ih =>
    intro i d h hb
    rw [insOuter, if_pos (by omega)]
    have g := insInner_good hS a b i d (by omega) hb
    exact g.trans (ih _ _ (by omega) (by rw [g.size]; exact hb))
theorem ins_good (hS : SWO lt) (d : Array α) (a b : Nat) (hb : b ≤ d.size) : Good lt a b d (insertionSort lt d a b) := insOuter_good hS a b _ _ _ rfl hb
theorem ins_sorted (hS : SWO lt) (d : Array α) (a b : Nat) (hab : a ≤ b) (hb : b ≤ d.size) : SortedIn lt a b (insertionSort lt d a b) := (insertionSort_holds hS d a b hab hb).2

/-! ### A rotation inside a merge -/
theorem afterRot_size (d : Array α) (m s e : Nat) : (afterRot d m s e).size = d.size := by
  unfold afterRot; split
  · exact rotate_size _ _ _ _
  · rfl
theorem afterRot_get (d : Array α) (m s e : Nat) (h1 : s ≤ m) (h2 : m ≤ e) (hs : e ≤ d.size) (p : Nat) :
    (afterRot d m s e)[p]! = if s ≤ p ∧ p < s + (e - m) then d[p + (m - s)]! else if s + (e - m) ≤ p ∧ p < e then d[p - (e - m)]! else d[p]! := by
  unfold afterRot
  by_cases c : s < m ∧ m < e
  · rw [if_pos c, rotate_get d s m e c.1 c.2 hs p]
  · rw [if_neg c]
    repeat' split
    all_goals first | rfl | omega | (congr 1; omega)
theorem afterRot_good (hS : SWO lt) (d : Array α) (m s e : Nat) (h1 : s ≤ m) (h2 : m ≤ e) (hs : e ≤ d.size) (hBA : ∀ x y, s ≤ x → x < m → m ≤ y → y < e → lt d[y]! d[x]! = true) : Good lt s e d (afterRot d m s e) := by
  have g := afterRot_get d m s e h1 h2 hs
  have ho : ∀ i, i < s ∨ e ≤ i → (afterRot d m s e)[i]! = d[i]! := by
    intro i hi
    rw [g]
    repeat' split
    all_goals first | omega | rfl
  refine ⟨afterRot_size _ _ _ _, ho, ?_⟩
  rw [seg_append _ (m := s + (e - m)) (by omega) (by omega), seg_append d h1 h2]
  rw [seg_shift (d := d) (a := s) (b := s + (e - m)) (k := m - s) (fun i a1 a2 => by rw [g, if_pos ⟨a1, a2⟩])]
  rw [show s + (m - s) = m by omega, show s + (e - m) + (m - s) = e by omega]
  have hB : seg (afterRot d m s e) (s + (e - m)) e = seg d s m := by
    have h3 := seg_shift (d := afterRot d m s e) (d' := d) (a := s) (b := m) (k := e - m) (fun i a1 a2 => by
      rw [g, if_neg (by omega), if_pos (by omega)]; congr 1; omega)
    rw [h3, show m + (e - m) = e by omega]
  rw [hB]
  refine StEq.swap hS fun x hx y hy => ?_
  obtain ⟨i, i1, i2, rfl⟩ := mem_seg.1 hx
  obtain ⟨j, j1, j2, rfl⟩ := mem_seg.1 hy
  exact hBA i j i1 i2 j1 j2

theorem moveUp_get (i : Nat) : ∀ (n k : Nat) (d : Array α), i - k = n → k < i → i ≤ d.size → (moveUp i k d).size = d.size ∧ ∀ p, (moveUp i k d)[p]! = if k ≤ p ∧ p + 1 < i then d[p + 1]! else if p + 1 = i then d[k]! else d[p]! := by
  intro n
  induction n with
  | zero => intro k d h hk; omega
  | succ n ih =>
    intro k d h hk hs
    rw [moveUp]
    by_cases c : k + 1 < i
    · rw [if_pos c]
      obtain ⟨z, h2⟩ := ih (k + 1) (swp d k (k + 1)) (by omega) c (by rw [size_swp]; exact hs)
      refine ⟨by rw [z, size_swp], fun p => ?_⟩
      have g := fun p => swp_get d (i := k) (j := k + 1) (by omega) (by omega) p
      rw [h2, g, g, g]
      repeat' split
      all_goals first | omega | rfl | (congr 1; omega)
    · rw [if_neg c]
      refine ⟨rfl, fun p => ?_⟩
      repeat' split
      all_goals first | omega | rfl | (congr 1; omega)
theorem moveUp_eq (i a : Nat) (d : Array α) (ha : a < i) (hs : i ≤ d.size) : moveUp i a d = afterRot d (a + 1) a i := by
  obtain ⟨z, g⟩ := moveUp_get i _ a d rfl ha hs
  apply Array.ext (z.trans (afterRot_size _ _ _ _).symm)
  intro p p1 p2
  have : (moveUp i a d)[p]! = (afterRot d (a + 1) a i)[p]! := by
    rw [g, afterRot_get d _ _ _ (by omega) (by omega) hs]
    repeat' split
    all_goals first | omega | rfl | (congr 1; omega)
  rwa [getElem!_pos _ p p1, getElem!_pos _ p p2] at this
theorem moveDown_get (i : Nat) : ∀ (k : Nat) (d : Array α), i ≤ k → k < d.size → (moveDown i k d).size = d.size ∧ ∀ p, (moveDown i k d)[p]! = if i < p ∧ p ≤ k then d[p - 1]! else if p = i then d[k]! else d[p]! := by
  intro k
  induction k with
  | zero =>
    intro d h hk
    rw [moveDown]
    refine ⟨rfl, fun p => ?_⟩
    repeat' split
    all_goals first | omega | rfl | (congr 1; omega)
  | succ k ih =>
    intro d h hk
    rw [moveDown]
    by_cases c : k + 1 > i
    · rw [if_pos c]
      obtain ⟨z, h2⟩ := ih (swp d (k + 1) k) (by omega) (by rw [size_swp]; omega)
      refine ⟨by rw [z, size_swp], fun p => ?_⟩
      have g := fun p => swp_get d (i := k + 1) (j := k) (by omega) (by omega) p
      rw [h2, g, g, g]
      repeat' split
      all_goals first | omega | rfl | (congr 1; omega)
    · rw [if_neg c]
      refine ⟨rfl, fun p => ?_⟩
      repeat' split
      all_goals first | omega | rfl | (congr 1; omega)
theorem moveDown_eq (i m : Nat) (d : Array α) (hi : i ≤ m) (hs : m < d.size) : moveDown i m d = afterRot d m i (m + 1) := by
  obtain ⟨z, g⟩ := moveDown_get i m d hi hs
  apply Array.ext (z.trans (afterRot_size _ _ _ _).symm)
  intro p p1 p2
  have : (moveDown i m d)[p]! = (afterRot d m i (m + 1))[p]! := by
    rw [g, afterRot_get d _ _ _ (by omega) (by omega) (by omega)]
    repeat' split
    all_goals first | omega | rfl | (congr 1; omega)
  rwa [getElem!_pos _ p p1, getElem!_pos _ p p2] at this

/-! ### symMerge -/
theorem sorted_out {a b : Nat} {d d' : Array α} (h : SortedIn lt a b d) (e : ∀ i, a ≤ i → i < b → d'[i]! = d[i]!) : SortedIn lt a b d' := fun i j h1 h2 h3 => by
  rw [e i h1 (by omega), e j (by omega) h3]; exact h i j h1 h2 h3
theorem glue {a mid b : Nat} {d : Array α} (h1 : SortedIn lt a mid d) (h2 : SortedIn lt mid b d) (hc : ∀ p q, a ≤ p → p < mid → mid ≤ q → q < b → lt d[q]! d[p]! = false) : SortedIn lt a b d := fun i j hi hij hj => by
  by_cases c : j < mid
  · exact h1 i j hi hij c
  · by_cases c2 : i < mid
    · exact hc i j hi c2 (by omega) hj
    · exact h2 i j (by omega) hij hj

/-- What a rotation in the middle of two sorted parts leaves. -/
theorem rot_parts (hS : SWO lt) (d : Array α) {a s m e b : Nat} (h1 : a ≤ s) (h2 : s ≤ m) (h3 : m ≤ e) (h4 : e ≤ b) (hb : b ≤ d.size) (sA : SortedIn lt a m d) (sB : SortedIn lt m b d)
    (hBA : ∀ x y, s ≤ x → x < m → m ≤ y → y < e → lt d[y]! d[x]! = true) (hAB : ∀ x y, a ≤ x → x < s → e ≤ y → y < b → lt d[y]! d[x]! = false) :
    Good lt a b d (afterRot d m s e) ∧ SortedIn lt a s (afterRot d m s e) ∧ SortedIn lt s (s + (e - m)) (afterRot d m s e) ∧ SortedIn lt (s + (e - m)) e (afterRot d m s e) ∧ SortedIn lt e b (afterRot d m s e) ∧
      (∀ p q, a ≤ p → p < s + (e - m) → s + (e - m) ≤ q → q < b → lt (afterRot d m s e)[q]! (afterRot d m s e)[p]! = false) := by
  have g := afterRot_get d m s e h2 h3 (by omega)
  refine ⟨(afterRot_good hS d m s e h2 h3 (by omega) hBA).mono h1 (by omega) h4, ?_, ?_, ?_, ?_, ?_⟩
  · intro i j a1 a2 a3
    rw [g, g, if_neg (by omega), if_neg (by omega), if_neg (by omega), if_neg (by omega)]
    exact sA i j (by omega) (by omega) (by omega)
  · intro i j a1 a2 a3
    rw [g, g, if_pos (by omega), if_pos (by omega)]
    exact sB _ _ (by omega) (by omega) (by omega)
  · intro i j a1 a2 a3
    rw [g, g, if_neg (by omega), if_pos (by omega), if_neg (by omega), if_pos (by omega)]
    exact sA _ _ (by omega) (by omega) (by omega)
  · intro i j a1 a2 a3
    rw [g, g, if_neg (by omega), if_neg (by omega), if_neg (by omega), if_neg (by omega)]
    exact sB i j (by omega) (by omega) (by omega)
  · intro p q p1 p2 q1 q2
    rw [g p, g q, if_neg (c := s ≤ q ∧ q < s + (e - m)) (by omega)]
    by_cases c1 : s ≤ p ∧ p < s + (e - m)
    · rw [if_pos c1]
      by_cases c2 : s + (e - m) ≤ q ∧ q < e
      · rw [if_pos c2]
        exact SWO.asymmA hS (hBA _ _ (by omega) (by omega) (by omega) (by omega))
      · rw [if_neg c2]
        exact sB _ _ (by omega) (by omega) (by omega)
    · rw [if_neg c1, if_neg (c := s + (e - m) ≤ p ∧ p < e) (by omega)]
      by_cases c2 : s + (e - m) ≤ q ∧ q < e
      · rw [if_pos c2]
        exact sA _ _ (by omega) (by omega) (by omega)
      · rw [if_neg c2]
        exact hAB _ _ (by omega) (by omega) (by omega) (by omega)

theorem sortedIn_one (a b : Nat) (d : Array α) (h : b ≤ a + 1) : SortedIn lt a b d := fun i j h1 h2 h3 => by omega

theorem symMerge_spec (hS : SWO lt) : ∀ (f : Nat) (d : Array α) (a m b : Nat), b - a ≤ f → a < m → m < b → b ≤ d.size → SortedIn lt a m d → SortedIn lt m b d →
    Good lt a b d (symMerge lt f d a m b) ∧ SortedIn lt a b (symMerge lt f d a m b) := by
  intro f
  induction f with
  | zero => intro d a m b h h1 h2; omega
  | succ f ih =>
    intro d a m b hf ham hmb hb sA sB
    rw [symMerge]
    by_cases c1 : m - a = 1
    · rw [if_pos c1]
      obtain rfl : m = a + 1 := by omega
      obtain ⟨i1, i2, i3, i4⟩ := bs_spec (fun h => lt d[h]! d[a]!) _ (a + 1) b (Nat.le_refl _) (by omega) (fun x y hx hxy hy hp => by
        cases hc : lt d[x]! d[a]! with
        | true => rfl
        | false =>
          have := hS.ntrans _ _ _ (sB x y hx hxy hy) hc
          rw [show lt d[y]! d[a]! = true from hp] at this; cases this)
      generalize bs (fun h => lt d[h]! d[a]!) (a + 1) b = i at i1 i2 i3 i4
      rw [moveUp_eq i a d (by omega) (by omega)]
      obtain ⟨g, p1, p2, p3, p4, p5⟩ := rot_parts hS d (a := a) (s := a) (m := a + 1) (e := i) (b := b) (Nat.le_refl _) (by omega) i1 i2 hb sA sB
        (fun x y x1 x2 y1 y2 => by obtain rfl : x = a := by omega
                                   exact i3 y y1 y2) (fun x y x1 x2 => by omega)
      refine ⟨g, glue p2 (glue p3 p4 ?_) p5⟩
      intro p q q1 q2 q3 q4
      have ge := afterRot_get d (a + 1) a i (by omega) i1 (by omega)
      rw [ge, ge, if_neg (by omega), if_neg (by omega), if_neg (by omega), if_pos (by omega), show p - (i - (a + 1)) = a by omega]
      exact i4 q q3 q4
    · rw [if_neg c1]
      by_cases c2 : b - m = 1
      · rw [if_pos c2]
        obtain rfl : b = m + 1 := by omega
        obtain ⟨i1, i2, i3, i4⟩ := bs_spec (fun h => !lt d[m]! d[h]!) _ a m (Nat.le_refl _) (by omega) (fun x y hx hxy hy hp => by
          simp only [Bool.not_eq_eq_eq_not, Bool.not_true] at hp ⊢
          exact hS.ntrans _ _ _ hp (sA x y hx hxy hy))
        generalize bs (fun h => !lt d[m]! d[h]!) a m = i at i1 i2 i3 i4
        rw [moveDown_eq i m d i2 (by omega)]
        obtain ⟨g, p1, p2, p3, p4, p5⟩ := rot_parts hS d (a := a) (s := i) (m := m) (e := m + 1) (b := m + 1) i1 i2 (by omega) (Nat.le_refl _) hb sA sB
          (fun x y x1 x2 y1 y2 => by obtain rfl : y = m := by omega
                                     have := i4 x x1 x2
                                     simpa using this) (fun x y _ _ y1 y2 => by omega)
        have ge := afterRot_get d m i (m + 1) i2 (by omega) (by omega)
        refine ⟨g, glue (glue p1 p2 ?_) (glue p3 p4 (fun p q _ _ q1 q2 => by omega)) p5⟩
        intro p q q1 q2 q3 q4
        rw [ge, ge, if_pos (by omega), if_neg (by omega), if_neg (by omega), show q + (m - i) = m by omega]
        have := i3 p q1 q2
        simpa using this
      · rw [if_neg c2]
        have hmid : a < (a + b) / 2 ∧ (a + b) / 2 < b := by omega
        have hmid2 : a + b ≤ 2 * ((a + b) / 2) + 1 ∧ 2 * ((a + b) / 2) ≤ a + b := by omega
        unfold startOf
        generalize (a + b) / 2 = mid at hmid hmid2 ⊢
        obtain ⟨lo, hlo⟩ : ∃ lo, (if m > mid then mid + m - b else a) = lo := ⟨_, rfl⟩
        obtain ⟨hi, hhi⟩ : ∃ hi, (if m > mid then mid else m) = hi := ⟨_, rfl⟩
        have lo1 : (m > mid → lo = mid + m - b) ∧ (m ≤ mid → lo = a) := by
          constructor <;> intro h
          · rw [← hlo, if_pos h]
          · rw [← hlo, if_neg (by omega)]
        have hi1 : (m > mid → hi = mid) ∧ (m ≤ mid → hi = m) := by
          constructor <;> intro h
          · rw [← hhi, if_pos h]
          · rw [← hhi, if_neg (by omega)]
        rw [hlo, hhi]
        clear hlo hhi
        have bnd : a ≤ lo ∧ lo ≤ hi ∧ hi ≤ m ∧ hi ≤ mid ∧ mid + m - hi ≥ m ∧ mid + m - lo ≤ b ∧ (∀ c, lo ≤ c → c < hi → m ≤ mid + m - 1 - c ∧ mid + m - 1 - c < b) := by
          rcases Nat.lt_or_ge mid m with h | h
          · have := lo1.1 h; have := hi1.1 h; exact ⟨by omega, by omega, by omega, by omega, by omega, by omega, fun c _ _ => by omega⟩
          · have := lo1.2 h; have := hi1.2 h; exact ⟨by omega, by omega, by omega, by omega, by omega, by omega, fun c _ _ => by omega⟩
        obtain ⟨b1, b2, b3, b4, b5, b6, b7⟩ := bnd
        obtain ⟨i1, i2, i3, i4⟩ := bs_spec (fun c => !lt d[mid + m - 1 - c]! d[c]!) _ lo hi (Nat.le_refl _) b2 (fun x y hx hxy hy hp => by
          simp only [Bool.not_eq_eq_eq_not, Bool.not_true] at hp ⊢
          have q1 := b7 x hx (by omega)
          have q2 := b7 y (by omega) hy
          have r1 := sB (mid + m - 1 - y) (mid + m - 1 - x) q2.1 (by omega) q1.2
          have r2 := sA x y (by omega) hxy (by omega)
          exact hS.ntrans _ _ _ (hS.ntrans _ _ _ r1 hp) r2)
        generalize bs (fun c => !lt d[mid + m - 1 - c]! d[c]!) lo hi = s at i1 i2 i3 i4
        obtain ⟨e, he⟩ : ∃ e, mid + m - s = e := ⟨_, rfl⟩
        dsimp only
        rw [he]
        have hse : s + (e - m) = mid := by omega
        have hBA : ∀ x y, s ≤ x → x < m → m ≤ y → y < e → lt d[y]! d[x]! = true := by
          intro x y x1 x2 y1 y2
          have hs : s < hi := by
            rcases Nat.lt_or_ge mid m with h | h
            · have := hi1.1 h; omega
            · have := hi1.2 h; omega
          have t := i4 s (Nat.le_refl _) hs
          simp only [Bool.not_eq_eq_eq_not, Bool.not_false] at t
          rw [show mid + m - 1 - s = e - 1 by omega] at t
          cases hc : lt d[y]! d[x]! with
          | true => rfl
          | false =>
            have r1 : lt d[e - 1]! d[y]! = false := by
              by_cases c : y = e - 1
              · rw [c]; exact hS.irrefl _
              · exact sB y (e - 1) y1 (by omega) (by omega)
            have r2 : lt d[x]! d[s]! = false := by
              by_cases c : x = s
              · rw [c]; exact hS.irrefl _
              · exact sA s x (by omega) (by omega) x2
            have := hS.ntrans _ _ _ (hS.ntrans _ _ _ r1 hc) r2
            rw [t] at this; cases this
        have hAB : ∀ x y, a ≤ x → x < s → e ≤ y → y < b → lt d[y]! d[x]! = false := by
          intro x y x1 x2 y1 y2
          have hs : lo < s := by
            rcases Nat.lt_or_ge mid m with h | h
            · have := lo1.1 h; omega
            · have := lo1.2 h; omega
          have t := i3 (s - 1) (by omega) (by omega)
          simp only [Bool.not_eq_eq_eq_not, Bool.not_true] at t
          rw [show mid + m - 1 - (s - 1) = e by omega] at t
          have r1 : lt d[y]! d[e]! = false := by
            by_cases c : y = e
            · rw [c]; exact hS.irrefl _
            · exact sB e y (by omega) (by omega) y2
          have r2 : lt d[s - 1]! d[x]! = false := by
            by_cases c : x = s - 1
            · rw [c]; exact hS.irrefl _
            · exact sA x (s - 1) x1 (by omega) (by omega)
          exact hS.ntrans _ _ _ (hS.ntrans _ _ _ r1 t) r2
        obtain ⟨g1, p1, p2, p3, p4, p5⟩ := rot_parts hS d (a := a) (s := s) (m := m) (e := e) (b := b) (by omega) (by omega) (by omega) (by omega) hb sA sB hBA hAB
        rw [hse] at p2 p3 p5
        generalize afterRot d m s e = d1 at g1 p1 p2 p3 p4 p5 ⊢
        -- the left half
        have hL : Good lt a mid d1 (if a < s ∧ s < mid then symMerge lt f d1 a s mid else d1) ∧ SortedIn lt a mid (if a < s ∧ s < mid then symMerge lt f d1 a s mid else d1) := by
          by_cases c : a < s ∧ s < mid
          · rw [if_pos c]
            exact ih d1 a s mid (by omega) c.1 c.2 (by rw [g1.size]; omega) p1 p2
          · rw [if_neg c]
            refine ⟨Good.refl _ _ _, ?_⟩
            rcases Nat.lt_or_ge a s with h | h
            · obtain rfl : s = mid := by omega
              exact p1
            · obtain rfl : s = a := by omega
              exact p2
        generalize (if a < s ∧ s < mid then symMerge lt f d1 a s mid else d1) = d2 at hL
        obtain ⟨g2, s2⟩ := hL
        have hR : Good lt mid b d2 (if mid < e ∧ e < b then symMerge lt f d2 mid e b else d2) ∧ SortedIn lt mid b (if mid < e ∧ e < b then symMerge lt f d2 mid e b else d2) := by
          have p3' : SortedIn lt mid e d2 := sorted_out p3 fun i h1 _ => g2.out i (Or.inr h1)
          have p4' : SortedIn lt e b d2 := sorted_out p4 fun i h1 _ => g2.out i (Or.inr (by omega))
          by_cases c : mid < e ∧ e < b
          · rw [if_pos c]
            exact ih d2 mid e b (by omega) c.1 c.2 (by rw [g2.size, g1.size]; omega) p3' p4'
          · rw [if_neg c]
            refine ⟨Good.refl _ _ _, ?_⟩
            rcases Nat.lt_or_ge mid e with h | h
            · obtain rfl : e = b := by omega
              exact p3'
            · obtain rfl : e = mid := by omega
              exact p4'
        generalize (if mid < e ∧ e < b then symMerge lt f d2 mid e b else d2) = d3 at hR
        obtain ⟨g3, s3⟩ := hR
        refine ⟨g1.trans ((g2.mono (Nat.le_refl _) (by omega) (by omega)).trans (g3.mono (by omega) (by omega) (Nat.le_refl _))), ?_⟩
        refine glue (sorted_out s2 fun i _ h => g3.out i (Or.inl h)) s3 fun p q a1 a2 a3 a4 => ?_
        rw [g3.out p (Or.inl a2)]
        obtain ⟨p', u1, u2, u3⟩ := g2.from hS a1 a2
        obtain ⟨q', v1, v2, v3⟩ := g3.from hS a3 a4
        rw [← u3, ← v3, g2.out q' (Or.inr v1)]
        exact p5 p' q' u1 u2 v1 v2

/-- symMerge of two sorted parts gives what insertion gives. -/
theorem symMerge_eq (hS : SWO lt) (f : Nat) (d : Array α) (a m b : Nat) (hf : b - a ≤ f) (h1 : a < m) (h2 : m < b) (hb : b ≤ d.size) (sA : SortedIn lt a m d) (sB : SortedIn lt m b d) :
    symMerge lt f d a m b = insertionSort lt d a b := by
  obtain ⟨g, s⟩ := symMerge_spec hS f d a m b hf h1 h2 hb sA sB
  exact g.uniq hS (ins_good hS d a b hb) s (ins_sorted hS d a b (by omega) hb)

/-! ### stable -/
def Blocks (lt : α → α → Bool) (s n c : Nat) (d : Array α) : Prop := ∀ k, k * s < c → SortedIn lt (k * s) (min (k * s + s) n) d

theorem insBlocks_spec (hS : SWO lt) (n : Nat) : ∀ (t k : Nat) (d : Array α), n + 20 - (k * 20 + 20) ≤ t → k * 20 ≤ n → n ≤ d.size → Blocks lt 20 n (k * 20) d →
    Good lt 0 n d (insBlocks lt n (k * 20) (k * 20 + 20) d) ∧ Blocks lt 20 n n (insBlocks lt n (k * 20) (k * 20 + 20) d) := by
  intro t
  induction t with
  | zero =>
    intro k d ht hk hn hB
    rw [insBlocks, dif_neg (by omega)]
    refine ⟨(ins_good hS d (k * 20) n hn).mono (by omega) hk (Nat.le_refl _), fun j hj => ?_⟩
    by_cases c : j * 20 < k * 20
    · exact sorted_out (hB j c) fun i h1 h2 => (ins_good hS d (k * 20) n hn).out i (Or.inl (by omega))
    · obtain rfl : j = k := by omega
      rw [show min (j * 20 + 20) n = n by omega]
      exact ins_sorted hS d _ n hk hn
  | succ t ih =>
    intro k d ht hk hn hB
    rw [insBlocks]
    by_cases c : k * 20 + 20 ≤ n
    · rw [dif_pos c]
      have g := ins_good hS d (k * 20) (k * 20 + 20) (by omega)
      have h := ih (k + 1) (insertionSort lt d (k * 20) (k * 20 + 20)) (by omega) (by omega) (by rw [g.size]; exact hn) (fun j hj => by
        by_cases c2 : j * 20 < k * 20
        · exact sorted_out (hB j c2) fun i h1 h2 => g.out i (Or.inl (by omega))
        · obtain rfl : j = k := by omega
          rw [show min (j * 20 + 20) n = j * 20 + 20 by omega]
          exact ins_sorted hS d _ _ (by omega) (by omega))
      rw [show (k + 1) * 20 = k * 20 + 20 by omega] at h
      exact ⟨(g.mono (by omega) (by omega) (by omega)).trans h.1, h.2⟩
    · rw [dif_neg c]
      refine ⟨(ins_good hS d (k * 20) n hn).mono (by omega) hk (Nat.le_refl _), fun j hj => ?_⟩
      by_cases c : j * 20 < k * 20
      · exact sorted_out (hB j c) fun i h1 h2 => (ins_good hS d (k * 20) n hn).out i (Or.inl (by omega))
      · obtain rfl : j = k := by omega
        rw [show min (j * 20 + 20) n = n by omega]
        exact ins_sorted hS d _ n hk hn

theorem two_blocks {s n j : Nat} {d : Array α} (h : Blocks lt s n n d) (hj : j * (2 * s) < n) : SortedIn lt (j * (2 * s)) (min (j * (2 * s) + s) n) d ∧ SortedIn lt (j * (2 * s) + s) (min (j * (2 * s) + 2 * s) n) d := by
  have e : j * (2 * s) = 2 * j * s := by rw [← Nat.mul_assoc, Nat.mul_comm j 2]
  have e2 : (2 * j + 1) * s = 2 * j * s + s := by rw [Nat.add_mul, Nat.one_mul]
  rw [e] at hj ⊢
  refine ⟨h (2 * j) hj, ?_⟩
  by_cases c : 2 * j * s + s < n
  · have := h (2 * j + 1) (by rw [e2]; exact c)
    rw [e2] at this
    rwa [show 2 * j * s + 2 * s = 2 * j * s + s + s by omega]
  · intro a b h1 h2 h3; omega

theorem mergeRow_spec (hS : SWO lt) (n s : Nat) (hs : 0 < s) : ∀ (t k : Nat) (d : Array α), n + 2 * s - (k * (2 * s) + 2 * s) ≤ t → k * (2 * s) ≤ n → n ≤ d.size → Blocks lt (2 * s) n (k * (2 * s)) d →
    (∀ j, k ≤ j → j * (2 * s) < n → SortedIn lt (j * (2 * s)) (min (j * (2 * s) + s) n) d ∧ SortedIn lt (j * (2 * s) + s) (min (j * (2 * s) + 2 * s) n) d) →
    Good lt 0 n d (mergeRow lt n s (k * (2 * s)) (k * (2 * s) + 2 * s) d) ∧ Blocks lt (2 * s) n n (mergeRow lt n s (k * (2 * s)) (k * (2 * s) + 2 * s) d) := by
  have last : ∀ (k : Nat) (d : Array α), ¬ k * (2 * s) + 2 * s ≤ n → k * (2 * s) ≤ n → n ≤ d.size → Blocks lt (2 * s) n (k * (2 * s)) d →
      (∀ j, k ≤ j → j * (2 * s) < n → SortedIn lt (j * (2 * s)) (min (j * (2 * s) + s) n) d ∧ SortedIn lt (j * (2 * s) + s) (min (j * (2 * s) + 2 * s) n) d) →
      Good lt 0 n d (if k * (2 * s) + s < n then symMerge lt (2 * s) d (k * (2 * s)) (k * (2 * s) + s) n else d) ∧ Blocks lt (2 * s) n n (if k * (2 * s) + s < n then symMerge lt (2 * s) d (k * (2 * s)) (k * (2 * s) + s) n else d) := by
    intro k d c hk hn hB hH
    have lastj : ∀ j, j * (2 * s) < n → ¬ j * (2 * s) < k * (2 * s) → j = k := by
      intro j h1 h2
      have a1 : k ≤ j := by
        rcases Nat.lt_or_ge j k with h | h
        · exact absurd (Nat.mul_lt_mul_of_pos_right h (by omega)) h2
        · exact h
      rcases Nat.lt_or_ge k j with h | h
      · have := Nat.mul_le_mul_right (2 * s) (show k + 1 ≤ j from h)
        rw [Nat.add_mul, Nat.one_mul] at this
        omega
      · omega
    by_cases c2 : k * (2 * s) + s < n
    · rw [if_pos c2]
      have h := hH k (Nat.le_refl _) (by omega)
      rw [show min (k * (2 * s) + s) n = k * (2 * s) + s by omega, show min (k * (2 * s) + 2 * s) n = n by omega] at h
      obtain ⟨g, so⟩ := symMerge_spec hS (2 * s) d _ _ n (by omega) (by omega) c2 hn h.1 h.2
      refine ⟨g.mono (by omega) (by omega) (Nat.le_refl _), fun j hj => ?_⟩
      by_cases c3 : j * (2 * s) < k * (2 * s)
      · refine sorted_out (hB j c3) fun i h1 h2 => g.out i (Or.inl ?_)
        have a1 : j < k := Nat.lt_of_mul_lt_mul_right c3
        have := Nat.mul_le_mul_right (2 * s) (show j + 1 ≤ k from a1)
        rw [Nat.add_mul, Nat.one_mul] at this
        omega
      · obtain rfl := lastj j hj c3
        rw [show min (j * (2 * s) + 2 * s) n = n by omega]
        exact so
    · rw [if_neg c2]
      refine ⟨Good.refl _ _ _, fun j hj => ?_⟩
      by_cases c3 : j * (2 * s) < k * (2 * s)
      · exact hB j c3
      · obtain rfl := lastj j hj c3
        have h := (hH j (Nat.le_refl _) hj).1
        rwa [show min (j * (2 * s) + s) n = n by omega, show n = min (j * (2 * s) + 2 * s) n by omega] at h
  intro t
  induction t with
  | zero =>
    intro k d ht hk hn hB hH
    have c : ¬ k * (2 * s) + 2 * s ≤ n := by omega
    rw [mergeRow, dif_neg (by omega)]
    exact last k d c hk hn hB hH
  | succ t ih =>
    intro k d ht hk hn hB hH
    rw [mergeRow]
    by_cases c : k * (2 * s) + 2 * s ≤ n
    · rw [dif_pos ⟨c, hs⟩]
      have h := hH k (Nat.le_refl _) (by omega)
      rw [show min (k * (2 * s) + s) n = k * (2 * s) + s by omega, show min (k * (2 * s) + 2 * s) n = k * (2 * s) + 2 * s by omega] at h
      obtain ⟨g, so⟩ := symMerge_spec hS (2 * s) d _ _ (k * (2 * s) + 2 * s) (by omega) (by omega) (by omega) (by omega) h.1 h.2
      have e : (k + 1) * (2 * s) = k * (2 * s) + 2 * s := by rw [Nat.add_mul, Nat.one_mul]
      have hh := ih (k + 1) (symMerge lt (2 * s) d (k * (2 * s)) (k * (2 * s) + s) (k * (2 * s) + 2 * s)) (by omega) (by omega) (by rw [g.size]; exact hn) (fun j hj => by
          by_cases c3 : j * (2 * s) < k * (2 * s)
          · refine sorted_out (hB j c3) fun i h1 h2 => g.out i (Or.inl ?_)
            have a1 : j < k := Nat.lt_of_mul_lt_mul_right c3
            have := Nat.mul_le_mul_right (2 * s) (show j + 1 ≤ k from a1)
            rw [Nat.add_mul, Nat.one_mul] at this
            omega
          · have a1 : j < k + 1 := Nat.lt_of_mul_lt_mul_right hj
            have a2 : j = k := by
              rcases Nat.lt_or_ge j k with h | h
              · exact absurd (Nat.mul_lt_mul_of_pos_right h (by omega)) c3
              · omega
            subst a2
            rw [show min (j * (2 * s) + 2 * s) n = j * (2 * s) + 2 * s by omega]
            exact so) (fun j hj1 hj2 => by
          have a2 := Nat.mul_le_mul_right (2 * s) hj1
          have h2 := hH j (by omega) hj2
          exact ⟨sorted_out h2.1 fun i h1 _ => g.out i (Or.inr (by omega)), sorted_out h2.2 fun i h1 _ => g.out i (Or.inr (by omega))⟩)
      rw [e] at hh
      exact ⟨(g.mono (by omega) (by omega) (by omega)).trans hh.1, hh.2⟩
    · rw [dif_neg (by omega)]
      exact last k d c hk hn hB hH

theorem mergeAll_spec (hS : SWO lt) (n : Nat) : ∀ (t s : Nat) (d : Array α), n - s ≤ t → 0 < s → n ≤ d.size → Blocks lt s n n d → Good lt 0 n d (mergeAll lt n s d) ∧ SortedIn lt 0 n (mergeAll lt n s d) := by
  have fin : ∀ (s : Nat) (d : Array α), n ≤ s → Blocks lt s n n d → SortedIn lt 0 n d := by
    intro s d h hB
    rcases Nat.eq_zero_or_pos n with h0 | h0
    · intro i j _ _ h3; omega
    · have := hB 0 (by omega)
      rwa [Nat.zero_mul, show min (0 + s) n = n by omega] at this
  intro t
  induction t with
  | zero =>
    intro s d ht hs hn hB
    rw [mergeAll, dif_neg (by omega)]
    exact ⟨Good.refl _ _ _, fin s d (by omega) hB⟩
  | succ t ih =>
    intro s d ht hs hn hB
    rw [mergeAll]
    by_cases c : s < n
    · rw [dif_pos ⟨c, hs⟩]
      have h := mergeRow_spec hS n s hs _ 0 d (Nat.le_refl _) (by omega) hn (fun j hj => by omega) (fun j _ hj => two_blocks hB hj)
      rw [Nat.zero_mul, Nat.zero_add] at h
      have h2 := ih (2 * s) (mergeRow lt n s 0 (2 * s) d) (by omega) (by omega) (by rw [h.1.size]; exact hn) h.2
      exact ⟨h.1.trans h2.1, h2.2⟩
    · rw [dif_neg (by omega)]
      exact ⟨Good.refl _ _ _, fin s d (by omega) hB⟩

/-- stable gives what insertion gives. -/
theorem stable_eq (hS : SWO lt) (d : Array α) (n : Nat) (hn : n ≤ d.size) : stable lt d n = insertionSort lt d 0 n := by
  have h1 := insBlocks_spec hS n _ 0 d (Nat.le_refl _) (by omega) hn (fun j hj => by omega)
  rw [Nat.zero_mul, Nat.zero_add] at h1
  obtain ⟨g2, s2⟩ := mergeAll_spec hS n _ 20 (insBlocks lt n 0 20 d) (Nat.le_refl _) (by omega) (by rw [h1.1.size]; exact hn) h1.2
  exact (h1.1.trans g2).uniq hS (ins_good hS d 0 n hn) s2 (ins_sorted hS d 0 n (by omega) hn)
end Pl
end Go.Proofs.Ytaifmeajfldckaa
