/- The walk of strings.TrimSpace at a text whose first and last bytes are ASCII and no white space: it hands the text back. -/
import Derived.Test.YtnboaaelhlbnpaaDoorPs
import Derived.Lib.LaidTab
import Derived.Lib.Space
import Derived.Lib.ConvBytes
import Derived.Lib.AtoiErrMem
import Derived.BigCall
import Derived.BigGuard
import Derived.LoopN
namespace Go.Nfp
open Go Go.Proofs Go.RowKit

theorem T9 : P.underlying 9 = some .string := by kernel_rfl
theorem T69 : P.underlying 69 = some (.slice 5) := by kernel_rfl
theorem T5 : P.underlying 5 = some (.int .u8) := by kernel_rfl
theorem gSpace : P.globalNamed "strings.asciiSpace" = some 0 := by kernel_rfl

set_option maxRecDepth 100000 in
set_option maxHeartbeats 1000000 in
theorem trim_calls (s : ByteArray) (w : World) (h0 : 0 < s.size) (hsz : s.size ≤ 4096) (c d : UInt8) (hc : s.data.toList.getD 0 0 = c) (hd : ∀ h : s.size - 1 < s.size, s[s.size - 1]'h = d)
    (hc1 : c.toNat < 128) (hd1 : d.toNat < 128) (hc2 : Lib.isSp c = false) (hd2 : Lib.isSp d = false) (htab : Lib.TabIs P w "strings.asciiSpace" .u8 Lib.asciiSpaceTab) :
    Calls Tryd.prog 20 #[.string s] w fun e w' => e = .returned (.string s) ∧ Below w.heap.size w w' := by
  have htab' : Lib.TabIs P (Lib.bytesWorld w 5 s) "strings.asciiSpace" .u8 Lib.asciiSpaceTab := Lib.bytesWorld_var w 5 s htab
  have hT : ∀ c : Nat, c < 256 → (Lib.bytesWorld w 5 s).cell? ⟨0, c, none⟩ = some (.int .u8 (if Lib.isSp (UInt8.ofNat c) then 1 else 0)) := by
    intro c hc
    rw [htab'.cell gSpace c (by rw [Lib.asciiSpaceTab_length]; exact hc), Lib.asciiSpaceTab_at c hc]
  have k1 : (Lib.bytesWorld w 5 s).cell? ⟨w.heap.size, 0, none⟩ = some (.int .u8 c.toNat) := by
    rw [← hc]
    exact Lib.bytesWorld_cell w 5 s 0 h0
  have k2 : (Lib.bytesWorld w 5 s).cell? ⟨0, c.toNat, none⟩ = some (.int .u8 0) := by
    have := hT c.toNat (by omega)
    simpa [hc2] using this
  have k3 : (Lib.bytesWorld w 5 s).cell? ⟨0, d.toNat, none⟩ = some (.int .u8 0) := by
    have := hT d.toNat (by omega)
    simpa [hd2] using this
  have hB := Lib.bytesWorld_below w 5 s
  have h128 : ¬ (128 : Int) ≤ (c.toNat : Int) := by omega
  have h128' : ¬ (128 : Int) ≤ (d.toNat : Int) := by omega
  have hsl1 : ∀ w, (Instr.slice 9 (.string s) (some (.int .i64 0)) none none).run Tryd.prog w = .ok (.string s) w := fun w => by
    rw [run_slice_string_from_if w 9 s .i64 _ T9, if_pos ⟨by omega, by omega⟩]
    simp
  have hsl2 : ∀ w, (Instr.slice 9 (.string s) none (some (.int .i64 (((s.size : Nat) : Int)))) none).run Tryd.prog w = .ok (.string s) w := fun w => by
    rw [run_slice_string_to_if w 9 s .i64 _ T9, if_pos ⟨by omega, by omega⟩]
    simp
  have hd' : s[s.size - 1]'(by omega) = d := hd _
  clear hT htab htab' hd
  go_enter Tryd.func20, Tryd.ntmps20
  go_wp2_with fail
  rw [Lib.run_convert_string_bytes w 9 69 5 s T9 T69 T5]
  simp only [Result.andThen]
  rw [Oper.upon_value]
  generalize Lib.bytesWorld w 5 s = W1 at *
  go_wp2_with fail
  refine wp_loop_rounds 1 ?_
  rw [rounds_succ]
  go_wp2_with fail
  obtain ⟨m, hm⟩ : ∃ m, s.size = m + 1 := ⟨s.size - 1, by omega⟩
  have hmt : m < s.size := by omega
  have hsm : s[m]'hmt = d := by
    rw [← hd']
    congr 1
    omega
  have hTy : W1.cell? ⟨0, (s[m]'hmt).toNat, none⟩ = some (.int .u8 0) := by
    rw [hsm]
    exact k3
  have hy128 : ¬ (128 : Int) ≤ ((s[m]'hmt).toNat : Int) := by rw [hsm]; omega
  have hsl2' : ∀ w, (Instr.slice 9 (.string s) none (some (.int .i64 ((m : Int) + 1))) none).run Tryd.prog w = .ok (.string s) w := fun w => by
    have := hsl2 w
    rw [hm] at this
    exact this
  have e1 : ((s.size : Nat) : Int) - 1 = (m : Int) := by omega
  rw [e1]
  clear hsl2 hsl1 k1 k2 k3 hd' hsm e1
  refine wp_loop_rounds 1 ?_
  rw [rounds_succ]
  go_wp2_with fail
  go_ret
  exact ⟨rfl, hB⟩
end Go.Nfp
