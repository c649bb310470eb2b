/- Each callee of getTokens is entered as a function with a body. -/
import Derived.Test.YtnboaaelhlbnpaaDoorSound2
import Derived.KernelRfl
namespace Go.Nfp
open Go Go.Proofs
theorem enter25 (w : World) (args : Array Value) : (callFunc 25 args).run P w = .ok (.enter 25 args) w := by kernel_rfl
theorem enter26 (w : World) (args : Array Value) : (callFunc 26 args).run P w = .ok (.enter 26 args) w := by kernel_rfl
theorem enter30 (w : World) (args : Array Value) : (callFunc 30 args).run P w = .ok (.enter 30 args) w := by kernel_rfl
theorem enter31 (w : World) (args : Array Value) : (callFunc 31 args).run P w = .ok (.enter 31 args) w := by kernel_rfl
theorem enter34 (w : World) (args : Array Value) : (callFunc 34 args).run P w = .ok (.enter 34 args) w := by kernel_rfl
theorem enter38 (w : World) (args : Array Value) : (callFunc 38 args).run P w = .ok (.enter 38 args) w := by kernel_rfl
theorem enter39 (w : World) (args : Array Value) : (callFunc 39 args).run P w = .ok (.enter 39 args) w := by kernel_rfl
end Go.Nfp
