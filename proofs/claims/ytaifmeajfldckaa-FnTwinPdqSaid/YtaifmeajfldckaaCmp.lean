/- The comparison byKey of slices' twins at two items of a row: what the walk wants at 'cmp(data[i], data[j]) < 0' ('cmpT', 'cmpF'); how a contract of a twin is lifted to a later world ('TPost'). No condition. -/
import Derived.Test.YtaifmeajfldckaaTwIns
namespace Go.Proofs.Ytaifmeajfldckaa
open Go.RowKit Go.Sort Go.Proofs

variable {blk n c1 : Nat} {d d' : Array (Int × Int)} {w0 w : World}
theorem byKey_enters : ∀ args w, (callFunc 82 args).run Try.prog w = .ok (.enter 82 args) w := enters_of Try.func82 (by kernel_rfl) rfl

theorem cmpT (h : Tn blk d w0 w) (hs : d.size = n) (i j : Nat) (hi : i < n) (hj : j < n) (hb : ltK d[i]! d[j]! = true) : ∃ x0 x1 y0 y1 : Int,
    w.cell? ⟨blk, i * 2, none⟩ = some (.int .i64 x0) ∧ w.cell? ⟨blk, i * 2 + 1, none⟩ = some (.int .i64 x1) ∧ w.cell? ⟨blk, j * 2, none⟩ = some (.int .i64 y0) ∧ w.cell? ⟨blk, j * 2 + 1, none⟩ = some (.int .i64 y1) ∧
    Aside (∀ W, Calls Try.prog 82 #[.agg #[.int .i64 x0, .int .i64 x1], .agg #[.int .i64 y0, .int .i64 y1]] W fun e w' => ∃ z : Int, e = .returned (.int .i64 z) ∧ z < 0 ∧ ∃ o1 o2, w' = (W.alloc o1).alloc o2) :=
  ⟨_, _, _, _, h.c0 (by omega), h.c1 (by omega), h.c0 (by omega), h.c1 (by omega), fun W => (byKey_any _ _ _ _ W).mono fun _ _ ⟨z, he, hz, hw⟩ => ⟨z, he, of_decide_eq_true (hz.trans hb), hw⟩⟩
theorem cmpF (h : Tn blk d w0 w) (hs : d.size = n) (i j : Nat) (hi : i < n) (hj : j < n) (hb : ltK d[i]! d[j]! = false) : ∃ x0 x1 y0 y1 : Int,
    w.cell? ⟨blk, i * 2, none⟩ = some (.int .i64 x0) ∧ w.cell? ⟨blk, i * 2 + 1, none⟩ = some (.int .i64 x1) ∧ w.cell? ⟨blk, j * 2, none⟩ = some (.int .i64 y0) ∧ w.cell? ⟨blk, j * 2 + 1, none⟩ = some (.int .i64 y1) ∧
    Aside (∀ W, Calls Try.prog 82 #[.agg #[.int .i64 x0, .int .i64 x1], .agg #[.int .i64 y0, .int .i64 y1]] W fun e w' => ∃ z : Int, e = .returned (.int .i64 z) ∧ ¬ z < 0 ∧ ∃ o1 o2, w' = (W.alloc o1).alloc o2) :=
  ⟨_, _, _, _, h.c0 (by omega), h.c1 (by omega), h.c0 (by omega), h.c1 (by omega), fun W => (byKey_any _ _ _ _ W).mono fun _ _ ⟨z, he, hz, hw⟩ => ⟨z, he, of_decide_eq_false (hz.trans hb), hw⟩⟩

/-- How a twin's call ends. -/
def TPost (blk : Nat) (d' : Array (Int × Int)) (w0 w : World) (v : Value) (e : Ending) (w' : World) : Prop := e = .returned v ∧ Aside (Tn blk d' w0 w') ∧ Aside (Tn blk d' w w')
theorem tpost {f : FuncId} {args : Array Value} {v : Value} (c : Calls Try.prog f args w fun e w' => e = .returned v ∧ Tn blk d' w w') (h : Tn blk d w0 w) (hs : d'.size = d.size) : Calls Try.prog f args w (TPost blk d' w0 w v) :=
  c.mono fun _ _ ⟨he, k⟩ => ⟨he, h.trans k hs, k⟩
end Go.Proofs.Ytaifmeajfldckaa
