/- The closed facts on the program alone that every row's proof asks, each in a declaration of its own (the kernel's memory). No condition. -/
import Derived.Test.YtaifmeajfldckaaProg
import Derived.JoinedOf
import Derived.KernelRfl
namespace Go.Proofs.Ytaifmeajfldckaa
theorem band {a b : Bool} (ha : a = true) (hb : b = true) : (a && b) = true := by rw [ha, hb]; rfl
theorem factLaid : laidOutB Try.prog = true := by kernel_rfl
theorem factMaps : mapsRowed Try.prog = true := by kernel_rfl
theorem factHeard : Try.prog.stopsHeard = true := by kernel_rfl
theorem factEnter : Try.prog.mayEnter = true := by kernel_rfl
theorem factLifts : Try.prog.liftsFinal = false := by kernel_rfl
theorem factMake : Try.prog.make = some Make.cut := by kernel_rfl
theorem factLifts' {x : Bool} (h : x = false) : (x == Try.prog.liftsFinal) = true := by rw [factLifts, h]; rfl
theorem factMake' {x : Make} (h : x = .cut) : (Try.prog.make == some x) = true := by rw [factMake, h]; exact beq_self_eq_true _
end Go.Proofs.Ytaifmeajfldckaa
