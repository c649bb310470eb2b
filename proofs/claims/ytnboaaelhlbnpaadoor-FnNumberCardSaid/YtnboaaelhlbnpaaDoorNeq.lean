/- The inequality of two tokens of the specification that are the same. -/
import Derived.Test.YtnboaaelhlbnpaaDoorTexts
import Derived.Laws.StructEq
namespace Go.Nfp
open Go Go.Proofs Go.RowKit
set_option maxRecDepth 10000
theorem eg62 : P.eqGuardType P.depth 62 = false := by kernel_rfl
theorem und62 : P.underlying 62 = some (.struct (P.fieldsOf 62)) := by kernel_rfl
theorem st62 : P.stoodInHeld 62 = false := by kernel_rfl
theorem fields62 : (P.fieldsOf 62).toList = [⟨ "Kind", 9, 0, false, "", "", 0⟩, ⟨ "Value", 9, 1, false, "", "", 16⟩] := by kernel_rfl
theorem part62a (b c : ByteArray) (w : World) : (part 9 #[.string b, .string c] 0).run P w = .ok (.string b) w := by kernel_rfl
theorem part62b (b c : ByteArray) (w : World) : (part 9 #[.string b, .string c] 1).run P w = .ok (.string c) w := by kernel_rfl
theorem run_neq62 (x y : Operand) (b c : ByteArray) (w : World) : (do eqGuard .neq 62 x y (.agg #[.string b, .string c]) (.agg #[.string b, .string c]); binOp .neq 62 (.agg #[.string b, .string c]) (.agg #[.string b, .string c]) : Sem Value).run P w = .ok (.bool false) w := by
  have T9' : P.underlying 9 = some .string := by kernel_rfl
  rw [Sem.run_bind, run_eqGuard_agg w _ _ _ _ _ _ eg62, Result.andThen_ok, run_neq_struct, run_equalIn_agg w 9999 62 _ _ und62 st62, fields62]
  simp [Op.eqFields, part62a, part62b, run_equalIn_string w 9998 9 _ _ T9']
end Go.Nfp
