/- The walks of impl.quietly and of the closure that it defers: nothing panics, so recover finds nothing. -/
import Derived.Test.YtnboaaelhlbnpaaDoorPClos
import Derived.Defers
import Derived.Recover
namespace Go.Nfp
open Go Go.Proofs Go.RowKit

set_option maxRecDepth 100000 in
theorem catch_idle (p : Addr) (w : World) :
    CallsD Tryd.prog 19 #[.pointer (some p)] .returning w fun e u' w' => e = .returned (.tuple #[]) ∧ u' = .returning ∧ w' = w := by
  refine callsD_of_wpS Tryd.func19 rfl fun c₀ cs hu => ?_
  apply wpS_seq
  apply wpS_region
  simp [wpOpsS, go_sem, recoverD, hu, Tryd.ntmps19, Exit.thenS]
  refine wpS_cond (t := false) (by simp [Act.eval, Array.replicate]) ?_
  simp only [Bool.false_eq_true, if_false]
  refine wpS_of_wp (wp_skip ?_)
  cases c₀
  simp_all [bodyPostS, results]

set_option maxRecDepth 100000 in
theorem quietly_calls (tb lb : Nat) (rs : List UInt8) (toks : Toks) (hR : Reads rs toks) (hn : toks.length ≤ 1000) (hne : toks ≠ []) (w : World) (ht : w.cell? ⟨tb, 0, none⟩ = some (.string (bs rs))) (hl : w.heap[lb]? = some (.cells #[.slice none 0 0] 23 (0, 0)))
    (htab : Lib.TabIs P w "strings.asciiSpace" .u8 Lib.asciiSpaceTab) :
    Calls Tryd.prog 13 #[.func (.func 14) #[] #[.pointer (some ⟨tb, 0, none⟩), .pointer (some ⟨lb, 0, none⟩)]] w fun e w' => e = .returned (.bool true) ∧ Closed lb toks w w' := by
  have hmf : ∀ (fn : Fn) (first cap : Array Value) (w : World), (Instr.makeFunc fn first cap).run Tryd.prog w = .ok (.func fn first cap) w := fun _ _ _ _ => rfl
  go_enter_defers Tryd.func13, Tryd.ntmps13
  go_wp2_with fail
  have ga := World.grownBy_alloc w (.cells #[.bool false] 4) none
  have gas := ga.size
  have b0 := heap_alloc_new w (.cells #[.bool false] 4)
  have ltb := World.block_lt_of_cell? w _ ht
  have llb := lt_of_block hl
  refine (pclos_calls tb lb rs toks hR hn hne _ ((World.cell?_of_block (ga.block tb ltb (by simp))).trans ht) ((ga.block lb llb (by simp)).trans hl) (tab_kept htab fun h0 => ga.block 0 h0 (by simp))).mono ?_
  rintro e w2 ⟨rfl, hC⟩
  have z1 : (w.alloc (.cells #[.bool false] 4)).heap.size = w.heap.size + 1 := by simp
  have b2 := (hC.block w.heap.size (by omega) (by omega)).trans b0
  have c2 : w2.cell? ⟨w.heap.size, 0, none⟩ = some (.bool false) := cell_of_block b2 rfl
  have f2 : w2.frozen? ⟨w.heap.size, 0, none⟩ = false := free_of_block b2
  go_wp2_with fail
  refine leaves_cons (f := 19) (args := #[.pointer (some ⟨w.heap.size, 0, none⟩)]) (by simp) (by simp [go_sem]) ?_
  refine (catch_idle ⟨w.heap.size, 0, none⟩ _).mono ?_
  rintro e u' w'' ⟨rfl, rfl, rfl⟩
  have b3 := block_setCell (k := 0) (v := .bool true) b2
  have hload : (Instr.loadAt 4 (.pointer (some ⟨w.heap.size, 0, none⟩))).run P (w2.setCell ⟨w.heap.size, 0, none⟩ (.bool true)) = .ok (.bool true) (w2.setCell ⟨w.heap.size, 0, none⟩ (.bool true)) := plainB_load plain_bool (cell_of_block b3 rfl)
  have z2 := hC.size
  have hcl : Closed lb toks w (w2.setCell ⟨w.heap.size, 0, none⟩ (.bool true)) := by
    obtain ⟨l, hl2, ob, cap, cs, it, rfl, hob, h1, h2, h3, h4⟩ := hC.here
    refine ⟨hC.os, hC.tape, hC.output, ?_, fun j hj hjl => ?_, _, ?_, ob, cap, cs, it, rfl, by omega, ?_, h2, h3, ?_⟩
    · simp only [World.setCell, Array.size_modify]
      omega
    · rw [Below.heap_setCell _ _ _ _ (by show j ≠ w.heap.size; omega), hC.block j (by omega) hjl]
      exact ga.block j hj (by simp)
    · rw [Below.heap_setCell _ _ _ _ (by show lb ≠ w.heap.size; omega)]
      exact hl2
    · rw [Below.heap_setCell _ _ _ _ (by show ob ≠ w.heap.size; omega)]
      exact h1
    · refine owns_of_block (w := w2) (owns_mono h4 (by omega)) fun k hk => ?_
      have := h4.lt k hk
      exact Below.heap_setCell _ _ _ _ (by show k ≠ w.heap.size; omega)
  exact ⟨_, results_cell (T := 4) rfl _ rfl hload, rfl, hcl⟩
end Go.Nfp
