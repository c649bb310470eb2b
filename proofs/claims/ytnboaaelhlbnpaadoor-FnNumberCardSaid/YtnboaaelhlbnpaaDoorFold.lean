/- A part of the walk of the parser: Fold: it proves facts about the code that the laws reach; no condition beyond those of its theorems. -/
import Derived.Test.YtnboaaelhlbnpaaDoorExec
import Derived.Test.YtnboaaelhlbnpaaDoorProg
import Derived.WalkKit
import Derived.WalkSpells
import Derived.WalkLawsBesides
import Derived.Lib.Hide
import Derived.KernelRfl
namespace Go.Nfp
open Go Go.Proofs Go.RowKit

set_option maxRecDepth 100000 in
set_option maxHeartbeats 400000 in
theorem fold_calls (s : ByteArray) (hsz : s.size ≤ 4096) (hs : ∀ i (h : i < s.size), (s[i]'h).toNat < 128) (w : World) :
    Calls Tryd.prog 38 #[.string s, .string s] w fun e w' => e = .returned (.bool true) ∧ w = w' := by
  go_enter Tryd.func38, Tryd.ntmps38
  go_wp2_with fail
  go_step3
  go_wp2_with fail
  go_loop [5] (fun i => ∃ k : Nat, k ≤ s.size ∧ i = .int .i64 k) (fun i => s.size - (intOf i).toNat)
  case atStart => exact ⟨0, Nat.zero_le _, rfl⟩
  case round =>
    obtain ⟨k, hk, rfl⟩ := hrel
    by_cases hlt : k < s.size
    · have h3 : bits BinOp.or IntKind.u8 ((s[k]'hlt).toNat : Int) ((s[k]'hlt).toNat : Int) < 128 := by
        have h4 := hs k hlt
        rw [u8_or_nat _ _ (by omega) (by omega), Nat.or_self]
        omega
      go_wp2_with fail
      go_round
      case rel => exact ⟨k + 1, by omega, by go_num⟩
      case measure => simp [intOf]; omega
    · go_wp2_with fail
      go_ret
      exact ⟨rfl, rfl⟩
end Go.Nfp
