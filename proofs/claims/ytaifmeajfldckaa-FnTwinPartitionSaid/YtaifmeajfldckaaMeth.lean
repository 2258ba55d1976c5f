/- The methods Less and Swap of Items over a row of items, and what the sorting asks of the methods of an Interface value ('Meth'). Condition: a list of at most 2^31 - 1 items. -/
import Derived.Test.YtaifmeajfldckaaKit
import Derived.Shelf.SlSortCmp.KitK
namespace Go.Proofs.Ytaifmeajfldckaa
open Go.RowKit Go.Sort Go.Proofs

set_option maxHeartbeats 1000000 in
theorem items_less (blk n c : Nat) (d : Array (Int × Int)) (w : World) (h : Tn blk d w w) (hs : d.size = n) (_hn : n ≤ 2147483647) (i j : Nat) (hi : i < n) (hj : j < n) :
    Calls Try.prog 140 #[.slice (some ⟨blk, 0, none⟩) n c, .int .i64 i, .int .i64 j] w fun e w' => e = .returned (.bool (ltK d[i]! d[j]!)) ∧ ∃ q, w' = w.drewN q := by
  have ci := h.c0 (i := i) (by omega)
  have cj := h.c0 (i := j) (by omega)
  unfold ltK
  generalize d[i]!.1 = x at ci ⊢
  generalize d[j]!.1 = y at cj ⊢
  clear h hs
  go_enter Try.func140, Try.ntmps140
  go_wp2
  go_quiet (fail)
  go_wp2
  go_ret
  exact ⟨rfl, nq, rfl⟩

set_option maxHeartbeats 4000000 in
set_option maxRecDepth 100000 in
theorem items_swap (blk n c : Nat) (d : Array (Int × Int)) (w0 w : World) (h : Tn blk d w0 w) (hs : d.size = n) (_hn : n ≤ 2147483647) (i j : Nat) (hi : i < n) (hj : j < n) :
    Calls Try.prog 141 #[.slice (some ⟨blk, 0, none⟩) n c, .int .i64 i, .int .i64 j] w fun e w' => e = .returned (.tuple #[]) ∧ Tn blk (swp d i j) w0 w' := by
  have S : Aside _ := h.swapped (i := i) (j := j) (by omega) (by omega) 1
  have a0 := h.c0 (i := i) (by omega)
  have a1 := h.c1 (i := i) (by omega)
  have b0 := h.c0 (i := j) (by omega)
  have b1 := h.c1 (i := j) (by omega)
  have p0 := h.f0 (i := i) (by omega)
  have p1 := h.f1 (i := i) (by omega)
  have q0 := h.f0 (i := j) (by omega)
  have q1 := h.f1 (i := j) (by omega)
  unfold encI at S
  generalize d[i]!.1 = x0 at S a0
  generalize d[i]!.2 = x1 at S a1
  generalize d[j]!.1 = y0 at S b0
  generalize d[j]!.2 = y1 at S b1
  obtain ⟨v1, e1⟩ := cell?_setCell_some (w := w) (p := ⟨blk, i * 2, none⟩) (x := .int .i64 y0) (q := ⟨blk, i * 2 + 1, none⟩) a1
  obtain ⟨v2, e2⟩ := cell?_setCell_some (w := w) (p := ⟨blk, i * 2, none⟩) (x := .int .i64 y0) (q := ⟨blk, j * 2, none⟩) b0
  obtain ⟨v3, e3⟩ := cell?_setCell_some (w := w) (p := ⟨blk, i * 2, none⟩) (x := .int .i64 y0) (q := ⟨blk, j * 2 + 1, none⟩) b1
  obtain ⟨v4, e4⟩ := cell?_setCell_some (w := w.setCell ⟨blk, i * 2, none⟩ (.int .i64 y0)) (p := ⟨blk, i * 2 + 1, none⟩) (x := .int .i64 y1) (q := ⟨blk, j * 2, none⟩) e2
  obtain ⟨v5, e5⟩ := cell?_setCell_some (w := w.setCell ⟨blk, i * 2, none⟩ (.int .i64 y0)) (p := ⟨blk, i * 2 + 1, none⟩) (x := .int .i64 y1) (q := ⟨blk, j * 2 + 1, none⟩) e3
  obtain ⟨v6, e6⟩ := cell?_setCell_some (w := (w.setCell ⟨blk, i * 2, none⟩ (.int .i64 y0)).setCell ⟨blk, i * 2 + 1, none⟩ (.int .i64 y1)) (p := ⟨blk, j * 2, none⟩) (x := .int .i64 x0) (q := ⟨blk, j * 2 + 1, none⟩) e5
  clear e2 e3 e5 h
  go_enter Try.func141, Try.ntmps141
  go_wp2_with fail
  go_region
  all_goals (try go_wp2)
  all_goals go_end0
  all_goals exact ⟨rfl, S.out⟩

theorem fuel_is : Try.prog.types.size + Made.depth = 233 := by kernel_rfl
/-- What the sorting asks of an Interface value '.iface T rv' over the row blk of n items, from the world w0 on: its methods Less, Swap, Len (functions gl, gs, gn with receivers rl, rs, rn), each by its contract. -/
structure Meth (lt : (Int × Int) → (Int × Int) → Bool) (T : TypeId) (rv : Value) (gl gs gn : Nat) (rl rs rn : Value) (blk n : Nat) (w0 : World) : Prop where
  hn : n ≤ 2147483647
  el : ∀ args w, (callFunc gl args).run Try.prog w = .ok (.enter gl args) w
  es : ∀ args w, (callFunc gs args).run Try.prog w = .ok (.enter gs args) w
  en : ∀ args w, (callFunc gn args).run Try.prog w = .ok (.enter gn args) w
  ml : ∀ w, On blk w0 w → Sem.run Try.prog (method 233 T rv "Less") w = .ok (gl, rl) w
  ms : ∀ w, On blk w0 w → Sem.run Try.prog (method 233 T rv "Swap") w = .ok (gs, rs) w
  mn : ∀ w, On blk w0 w → Sem.run Try.prog (method 233 T rv "Len") w = .ok (gn, rn) w
  less : ∀ d w, Tn blk d w0 w → d.size = n → ∀ i j : Nat, i < n → j < n → Calls Try.prog gl #[rl, .int .i64 i, .int .i64 j] w fun e w' => e = .returned (.bool (lt d[i]! d[j]!)) ∧ Below w.heap.size w w'
  swap : ∀ d w, Tn blk d w0 w → d.size = n → ∀ i j : Nat, i < n → j < n → Calls Try.prog gs #[rs, .int .i64 i, .int .i64 j] w fun e w' => e = .returned (.tuple #[]) ∧ Tn blk (swp d i j) w w'
  len : ∀ d w, Tn blk d w0 w → d.size = n → Calls Try.prog gn #[rn] w fun e w' => e = .returned (.int .i64 n) ∧ Below w.heap.size w w'

section
variable {lt : (Int × Int) → (Int × Int) → Bool} {T : TypeId} {rv : Value} {gl gs gn : Nat} {rl rs rn : Value} {blk n : Nat} {w0 w : World} {d : Array (Int × Int)}
theorem Meth.at_ (M : Meth lt T rv gl gs gn rl rs rn blk n w0) (h : Tn blk d w0 w) (hs : d.size = n) : Meth lt T rv gl gs gn rl rs rn blk n w :=
  have tr : ∀ {d' w'}, Tn blk d' w w' → d'.size = n → Tn blk d' w0 w' := fun k e => h.trans k (e.trans hs.symm)
  ⟨M.hn, M.el, M.es, M.en, fun w' k => M.ml w' (h.on.trans k), fun w' k => M.ms w' (h.on.trans k), fun w' k => M.mn w' (h.on.trans k),
    fun d' w' k e => M.less d' w' (tr k e) e, fun d' w' k e => M.swap d' w' (tr k e) e, fun d' w' k e => M.len d' w' (tr k e) e⟩
theorem Meth.lessAt (M : Meth lt T rv gl gs gn rl rs rn blk n w0) (h : Tn blk d w0 w) (hs : d.size = n) (i j : Nat) (hi : i < n) (hj : j < n) {b : Bool} (hb : lt d[i]! d[j]! = b) {I J : Int} (eI : I = i) (eJ : J = j) :
    Calls Try.prog gl #[rl, .int .i64 I, .int .i64 J] w fun e w' => e = .returned (.bool b) ∧ Aside (Tn blk d w0 w') ∧ On blk w0 w' ∧ Aside (Below w.heap.size w w') := by
  subst eI eJ hb
  exact post_read (M.less d w h hs i j hi hj) h
theorem Meth.swapAt (M : Meth lt T rv gl gs gn rl rs rn blk n w0) (h : Tn blk d w0 w) (hs : d.size = n) (i j : Nat) (hi : i < n) (hj : j < n) {I J : Int} (eI : I = i) (eJ : J = j) :
    Calls Try.prog gs #[rs, .int .i64 I, .int .i64 J] w (Post blk (swp d i j) w0 w (.tuple #[])) := by
  subst eI eJ
  exact post_lift (M.swap d w h hs i j hi hj) h (size_swp _ _ _)
theorem Meth.lenAt (M : Meth lt T rv gl gs gn rl rs rn blk n w0) (h : Tn blk d w0 w) (hs : d.size = n) :
    Calls Try.prog gn #[rn] w fun e w' => e = .returned (.int .i64 n) ∧ Aside (Tn blk d w0 w') ∧ On blk w0 w' ∧ Aside (Below w.heap.size w w') :=
  post_read (M.len d w h hs) h
end

/-- The value of a list of n items that lies in block blk; nil if it is empty. -/
def ItemsVal (blk n : Nat) (rv : Value) : Prop := (n = 0 ∧ rv = .slice none 0 0) ∨ ∃ cap, n ≤ cap ∧ rv = .slice (some ⟨blk, 0, none⟩) n cap

theorem items_len (rv : Value) (blk n : Nat) (h : ItemsVal blk n rv) (w : World) :
    Calls Try.prog 139 #[rv] w fun e w' => e = .returned (.int .i64 n) ∧ w' = w := by
  rcases h with ⟨rfl, rfl⟩ | ⟨cap, hc, rfl⟩
  · go_enter Try.func139, Try.ntmps139
    go_wp2
    go_ret
    exact ⟨rfl, rfl⟩
  · go_enter Try.func139, Try.ntmps139
    go_wp2
    go_ret
    exact ⟨rfl, rfl⟩

theorem items_finds (rv : Value) (blk n : Nat) (h : ItemsVal blk n rv) (w : World) :
    Sem.run Try.prog (method 233 43 rv "Less") w = .ok (140, rv) w ∧
    Sem.run Try.prog (method 233 43 rv "Swap") w = .ok (141, rv) w ∧
    Sem.run Try.prog (method 233 43 rv "Len") w = .ok (139, rv) w := by
  rcases h with ⟨_, rfl⟩ | ⟨cap, _, rfl⟩
  · exact ⟨by kernel_rfl, by kernel_rfl, by kernel_rfl⟩
  · exact ⟨by kernel_rfl, by kernel_rfl, by kernel_rfl⟩

/-- Items has the methods. -/
theorem items_meth (rv : Value) (blk n : Nat) (h : ItemsVal blk n rv) (hn : n ≤ 2147483647) (w0 : World) :
    Meth ltK 43 rv 140 141 139 rv rv rv blk n w0 where
  hn := hn
  el := enters_of Try.func140 (by kernel_rfl) rfl
  es := enters_of Try.func141 (by kernel_rfl) rfl
  en := enters_of Try.func139 (by kernel_rfl) rfl
  ml := fun w _ => (items_finds rv blk n h w).1
  ms := fun w _ => (items_finds rv blk n h w).2.1
  mn := fun w _ => (items_finds rv blk n h w).2.2
  less := fun d w k e i j hi hj => by
    rcases h with ⟨rfl, _⟩ | ⟨cap, _, rfl⟩
    · omega
    · exact (items_less blk n cap d w k.self e hn i j hi hj).mono fun _ _ ⟨he, q, hq⟩ => ⟨he, hq ▸ below_drewN w q⟩
  swap := fun d w k e i j hi hj => by
    rcases h with ⟨rfl, _⟩ | ⟨cap, _, rfl⟩
    · omega
    · exact items_swap blk n cap d w w k.self e hn i j hi hj
  len := fun d w _ _ => (items_len rv blk n h w).mono fun _ _ ⟨he, hw⟩ => ⟨he, hw ▸ Below.refl _ _⟩
end Go.Proofs.Ytaifmeajfldckaa
