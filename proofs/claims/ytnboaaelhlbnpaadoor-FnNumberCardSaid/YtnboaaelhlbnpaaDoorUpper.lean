/- A part of the walk of the parser: Upper: it proves facts about the code that the laws reach; no condition beyond those of its theorems. -/
import Derived.Test.YtnboaaelhlbnpaaDoorExec
import Derived.Test.YtnboaaelhlbnpaaDoorProg
import Derived.WalkKit
import Derived.WalkSpells
import Derived.WalkLawsBesides
import Derived.Lib.Hide
import Derived.KernelRfl
namespace Go.Nfp
open Go Go.Proofs Go.RowKit

set_option maxRecDepth 100000 in
set_option maxHeartbeats 400000 in
theorem upper_calls (s : ByteArray) (hsz : s.size ≤ 4096) (hs : ∀ i (h : i < s.size), (s[i]'h).toNat < 97 ∨ (122 < (s[i]'h).toNat ∧ (s[i]'h).toNat < 128)) (w : World) :
    Calls Tryd.prog 34 #[.string s] w fun e w' => e = .returned (.string s) ∧ w = w' := by
  go_enter Tryd.func34, Tryd.ntmps34
  go_wp2_with fail
  go_loop [3, 4, 5] (fun c b i => ∃ k : Nat, k ≤ s.size ∧ i = .int .i64 k ∧ b = .bool false ∧ c = .bool true) (fun _ _ i => s.size - (intOf i).toNat)
  case atStart => exact ⟨0, Nat.zero_le _, rfl, rfl, rfl⟩
  case round =>
    obtain ⟨k, hk, rfl, rfl, rfl⟩ := hrel
    by_cases hlt : k < s.size
    · rcases hs k hlt with h | ⟨h, h2⟩
      · have h3 : ¬ (97 : Int) ≤ ((s[k]'hlt).toNat : Int) := by omega
        go_wp2_with fail
        go_round
        case rel => exact ⟨k + 1, by omega, by go_num, rfl, rfl⟩
        case measure => simp [intOf]; omega
      · have h3 : decide (((s[k]'hlt).toNat : Int) ≤ 122) = false := by simp; omega
        go_wp2_with fail
        go_round
        case rel => exact ⟨k + 1, by omega, by go_num, by first | rfl | rw [h3], rfl⟩
        case measure => simp [intOf]; omega
    · go_wp2_with fail
      go_ret
      exact ⟨rfl, rfl⟩
end Go.Nfp
