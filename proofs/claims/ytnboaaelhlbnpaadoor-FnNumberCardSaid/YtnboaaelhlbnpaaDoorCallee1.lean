/- A part of the walk of the parser: Callee1: it proves facts about the code that the laws reach; no condition beyond those of its theorems. -/
import Derived.Test.YtnboaaelhlbnpaaDoorProg
import Derived.WalkKit
import Derived.WalkSpells
import Derived.WalkLawsBesides
import Derived.Deep.QuietTactic
import Derived.BigQuiet
import Derived.KernelRfl
namespace Go.Nfp
open Go Go.Proofs Go.RowKit

set_option maxRecDepth 100000 in
set_option maxHeartbeats 400000 in
theorem eof_calls (bp br off n cr : Nat) (w : World) (h4 : w.cell? ⟨bp, 4, none⟩ = some (.slice (some ⟨br, 0, none⟩) n cr)) (h5 : w.cell? ⟨bp, 5, none⟩ = some (.int .i64 off)) :
    Calls Tryd.prog 25 #[.pointer (some ⟨bp, 0, none⟩)] w fun e w' => e = .returned (.bool (decide (n ≤ off))) ∧ ∃ k, w' = w.drewN k := by
  go_enter Tryd.func25, Tryd.ntmps25
  go_wp2_with fail
  go_quiet (fail)
  go_wp2_with fail
  go_ret
  exact ⟨rfl, _, rfl⟩

theorem encode_ascii (c : Nat) (h : c < 128) : Utf8.encode (c : Int) = ⟨#[UInt8.ofNat c]⟩ := by
  have hv : Utf8.valid (c : Int) = true := by
    unfold Utf8.valid
    simp only [Bool.or_eq_true, Bool.and_eq_true, decide_eq_true_eq]
    omega
  unfold Utf8.encode
  simp only [hv, if_true, Int.toNat_natCast]
  rw [if_pos h]

set_option maxRecDepth 100000 in
set_option maxHeartbeats 400000 in
theorem cur_calls (bp br off n cr : Nat) (c : Nat) (w : World) (h4 : w.cell? ⟨bp, 4, none⟩ = some (.slice (some ⟨br, 0, none⟩) n cr)) (h5 : w.cell? ⟨bp, 5, none⟩ = some (.int .i64 off))
    (hlt : (off : Int) < n) (hc : w.cell? ⟨br, off, none⟩ = some (.int .i32 c)) (hc128 : c < 128) :
    Calls Tryd.prog 26 #[.pointer (some ⟨bp, 0, none⟩)] w fun e w' => e = .returned (.string ⟨#[UInt8.ofNat c]⟩) ∧ ∃ k, w' = w.drewN k := by
  have hk : (0 : Int) ≤ off := by omega
  have he := encode_ascii c hc128
  clear hc128
  go_enter Tryd.func26, Tryd.ntmps26
  go_wp2_with fail
  go_quiet (fail)
  go_wp2_with fail
  go_ret
  exact ⟨rfl, _, rfl⟩

theorem runes_two (b o c c1 c2 : Nat) (h1 : c1 < 128) (h2 : c2 < 128) (w : World) (k1 : w.cell? ⟨b, o, none⟩ = some (.int .i32 c1)) (k2 : w.cell? ⟨b, o + 1, none⟩ = some (.int .i32 c2)) :
    (convert 39 9 (.slice (some ⟨b, o, none⟩) 2 c)).run Tryd.prog w = .ok (.string ⟨#[UInt8.ofNat c1, UInt8.ofNat c2]⟩) w := by
  have u1 : Tryd.prog.underlying 39 = some (.slice 21) := by kernel_rfl
  have u2 : Tryd.prog.underlying 9 = some .string := by kernel_rfl
  have u3 : Tryd.prog.underlying 21 = some (.int .i32) := by kernel_rfl
  simp [convert, underlying, u1, u2, u3, Conv.runesToString, loadCells, loadCellsFrom, Addr.add, k1, k2, encode_ascii c1 h1, encode_ascii c2 h2]
  rfl

set_option maxRecDepth 100000 in
set_option maxHeartbeats 400000 in
theorem dbl_calls (bp br off n cr : Nat) (c1 c2 : Nat) (w : World) (h4 : w.cell? ⟨bp, 4, none⟩ = some (.slice (some ⟨br, 0, none⟩) n cr)) (h5 : w.cell? ⟨bp, 5, none⟩ = some (.int .i64 off))
    (hlt : off + 2 ≤ n) (hcr : n ≤ cr) (hmax : n ≤ 9223372036854775807) (hc1 : w.cell? ⟨br, off, none⟩ = some (.int .i32 c1)) (hc2 : w.cell? ⟨br, off + 1, none⟩ = some (.int .i32 c2)) (h1 : c1 < 128) (h2 : c2 < 128) :
    Calls Tryd.prog 39 #[.pointer (some ⟨bp, 0, none⟩)] w fun e w' => e = .returned (.string ⟨#[UInt8.ofNat c1, UInt8.ofNat c2]⟩) ∧ ∃ k, w' = w.drewN k := by
  have hk : (0 : Int) ≤ off := by omega
  have hd : decide (off + 2 ≤ n) = true := by simpa using hlt
  have hne : ¬ cr = off := by omega
  have e1 : IntKind.i64.wrap ((off : Int) + 2) = (off : Int) + 2 := IntWalk.i64_in _ (by omega)
  have e2 : (0 : Int) ≤ (off : Int) + 2 := by omega
  have e3 : ((off : Int) + 2).toNat = off + 2 := by omega
  have hr := fun c W => runes_two br off c c1 c2 h1 h2 W
  clear h1 h2
  go_enter Tryd.func39, Tryd.ntmps39
  go_wp2_with fail
  go_quiet (fail)
  go_wp2_with fail
  go_quiet (fail)
  go_wp2_with fail
  go_ret
  exact ⟨rfl, _, World.drewN_drewN _ _ _⟩
end Go.Nfp
