/- sort's Reverse: the value it makes has the methods that the sorting asks, with Less turned. -/
import Derived.Test.YtaifmeajfldckaaMeth
namespace Go.Proofs.Ytaifmeajfldckaa
open Go.RowKit Go.Sort Go.Proofs

theorem rev_rows : (Try.prog.info? 80).map (fun i => i.methods.toList.map fun m => (m.name, m.path.toList.map fun s => (s.struct, s.index, s.deref), m.func)) =
    some [("Len", [(82, 0, true)], none), ("Less", [], some (142, false)), ("Swap", [(82, 0, true)], none)] := by kernel_rfl
theorem rev_under : Try.prog.underlying 80 = some (.pointer 82) := by kernel_rfl
theorem rev_struct : Try.prog.underlying 82 = some (.struct (Try.prog.fieldsOf 82)) := by kernel_rfl

theorem wrapnil (xt ty : TypeId) (a : Addr) (name : String) (w : World) : (Builtin.ssaWrapNilChk_ #[xt] ty #[.pointer (some a), strVal "", strVal name]).run Try.prog w = .ok (.pointer (some a)) w := rfl
theorem rev_less (g : Nat) (T : TypeId) (rv : Value) (w : World) (hc : w.cell? ⟨g, 0, none⟩ = some (.iface T rv)) :
    Sem.run Try.prog (method 233 80 (.pointer (some ⟨g, 0, none⟩)) "Less") w = .ok (142, .agg #[.iface T rv]) w := by
  have hi : ∃ i, Try.prog.info? 80 = some i ∧ i.methods.find? (·.name == "Less") = some { name := "Less", sig := 66, path := #[], func := some (142, false) } := by
    have h : (Try.prog.info? 80).map (fun i => i.methods.find? (·.name == "Less")) = some (some { name := "Less", sig := 66, path := #[], func := some (142, false) }) := by kernel_rfl
    cases hx : Try.prog.info? 80 with
    | none => rw [hx] at h; cases h
    | some i => rw [hx] at h; exact ⟨i, rfl, by simpa using h⟩
  obtain ⟨i, hi, hf⟩ := hi
  rw [show (233 : Nat) = 232 + 1 from rfl, method]
  simp [typeInfo, hi, hf, follow, receiverAt, run_underlying rev_under, wrapnil, Place.get]
  go_simp
theorem rev_field : (Try.prog.fieldsOf 82)[0]? = some { name := "Interface", type := 59, offset := 0, embedded := true, tag := "", pkgPath := "", byteOffset := 0 } := by kernel_rfl

theorem rev_swap (g : Nat) (T : TypeId) (rv : Value) (w : World) (hc : w.cell? ⟨g, 0, none⟩ = some (.iface T rv)) :
    Sem.run Try.prog (method 233 80 (.pointer (some ⟨g, 0, none⟩)) "Swap") w = Sem.run Try.prog (method 232 T rv "Swap") w := by
  have hi : ∃ i, Try.prog.info? 80 = some i ∧ (i.methods.find? (·.name == "Swap")).map (fun m => (m.path, m.func)) = some (#[{ struct := 82, index := 0, deref := true }], none) := by
    have h : (Try.prog.info? 80).map (fun i => (i.methods.find? (·.name == "Swap")).map (fun m => (m.path, m.func))) = some (some (#[{ struct := 82, index := 0, deref := true }], none)) := by kernel_rfl
    cases hx : Try.prog.info? 80 with
    | none => rw [hx] at h; cases h
    | some i => rw [hx] at h; exact ⟨i, rfl, by simpa using h⟩
  obtain ⟨i, hi, hf⟩ := hi
  cases hm : i.methods.find? (·.name == "Swap") with
  | none => rw [hm] at hf; cases hf
  | some mm =>
    rw [hm] at hf
    obtain ⟨p1, p2⟩ := Prod.mk.inj (Option.some.inj hf)
    rw [show (233 : Nat) = 232 + 1 from rfl, method]
    simp [typeInfo, hi, hm, p1, p2, follow, run_underlying rev_struct, rev_field, Place.get]
    go_simp

theorem rev_len (g : Nat) (T : TypeId) (rv : Value) (w : World) (hc : w.cell? ⟨g, 0, none⟩ = some (.iface T rv)) :
    Sem.run Try.prog (method 233 80 (.pointer (some ⟨g, 0, none⟩)) "Len") w = Sem.run Try.prog (method 232 T rv "Len") w := by
  have hi : ∃ i, Try.prog.info? 80 = some i ∧ (i.methods.find? (·.name == "Len")).map (fun m => (m.path, m.func)) = some (#[{ struct := 82, index := 0, deref := true }], none) := by
    have h : (Try.prog.info? 80).map (fun i => (i.methods.find? (·.name == "Len")).map (fun m => (m.path, m.func))) = some (some (#[{ struct := 82, index := 0, deref := true }], none)) := by kernel_rfl
    cases hx : Try.prog.info? 80 with
    | none => rw [hx] at h; cases h
    | some i => rw [hx] at h; exact ⟨i, rfl, by simpa using h⟩
  obtain ⟨i, hi, hf⟩ := hi
  cases hm : i.methods.find? (·.name == "Len") with
  | none => rw [hm] at hf; cases hf
  | some mm =>
    rw [hm] at hf
    obtain ⟨p1, p2⟩ := Prod.mk.inj (Option.some.inj hf)
    rw [show (233 : Nat) = 232 + 1 from rfl, method]
    simp [typeInfo, hi, hm, p1, p2, follow, run_underlying rev_struct, rev_field, Place.get]
    go_simp

theorem items_finds2 (rv : Value) (blk n : Nat) (h : ItemsVal blk n rv) (w : World) :
    Sem.run Try.prog (method 232 43 rv "Swap") w = .ok (141, rv) w ∧
    Sem.run Try.prog (method 232 43 rv "Len") w = .ok (139, rv) w := by
  rcases h with ⟨_, rfl⟩ | ⟨cap, _, rfl⟩
  · exact ⟨by kernel_rfl, by kernel_rfl⟩
  · exact ⟨by kernel_rfl, by kernel_rfl⟩

set_option maxHeartbeats 1000000 in
theorem revLess_any {lt : (Int × Int) → (Int × Int) → Bool} {T : TypeId} {rv : Value} {gl gs gn : Nat} {rl rs rn : Value} {blk n : Nat} {w0 w : World} {d : Array (Int × Int)} (M : Meth lt T rv gl gs gn rl rs rn blk n w0) (h : Tn blk d w0 w) (hs : d.size = n) (i j : Nat) (hi : i < n) (hj : j < n) :
    Calls Try.prog 142 #[.agg #[.iface T rv], .int .i64 i, .int .i64 j] w fun e w' => e = .returned (.bool (lt d[j]! d[i]!)) ∧ Below w.heap.size w w' := by
  have el := M.el
  have ml := M.ml
  have h1 := h.alloc (.cells #[.iface T rv] 82)
  have o1 := h1.on
  obtain ⟨r, hr⟩ : ∃ r, lt d[j]! d[i]! = r := ⟨_, rfl⟩
  rw [hr]
  have HC := aside (M.lessAt h1 hs j i hj hi hr rfl rfl)
  clear M h1 hr
  go_enter Try.func142, Try.ntmps142
  go_wp2_with fail
  refine HC.out.mono ?_
  rintro e w1 ⟨rfl, -, -, hb⟩
  go_wp2_with fail
  go_ret
  exact ⟨rfl, ((Below.refl _ _).alloc (Nat.le_refl _) _).trans (hb.out.mono (by simp))⟩

/-- What Reverse makes has the methods. -/
theorem rev_meth {rv : Value} {blk n : Nat} {w0 : World} (h : ItemsVal blk n rv) (hn : n ≤ 2147483647) (g : Nat) (hc : w0.cell? ⟨g, 0, none⟩ = some (.iface 43 rv)) (hg : g ≠ blk) :
    Meth ltR 80 (.pointer (some ⟨g, 0, none⟩)) 142 141 139 (.agg #[.iface 43 rv]) rv rv blk n w0 :=
  have M := items_meth rv blk n h hn w0
  have hk : ∀ w, On blk w0 w → w.cell? ⟨g, 0, none⟩ = some (.iface 43 rv) := fun w ⟨d, hT⟩ =>
    (World.cell?_of_block (hT.block g (World.block_lt_of_cell? w0 _ hc) hg)).trans hc
  { hn := hn
    el := enters_of Try.func142 (by kernel_rfl) rfl
    es := M.es
    en := M.en
    ml := fun w k => rev_less g _ rv w (hk w k)
    ms := fun w k => (rev_swap g _ rv w (hk w k)).trans (items_finds2 rv blk n h w).1
    mn := fun w k => (rev_len g _ rv w (hk w k)).trans (items_finds2 rv blk n h w).2
    less := fun _ _ k e i j hi hj => revLess_any M k e i j hi hj
    swap := M.swap
    len := M.len }
end Go.Proofs.Ytaifmeajfldckaa
