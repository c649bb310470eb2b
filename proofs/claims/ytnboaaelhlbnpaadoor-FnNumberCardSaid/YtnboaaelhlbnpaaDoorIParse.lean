/- The walks of impl.Parse and of laws.works. -/
import Derived.Test.YtnboaaelhlbnpaaDoorQuietly
namespace Go.Nfp
open Go Go.Proofs Go.RowKit

theorem results_cell_tmp {fn : Func} {t u T : Nat} (h : fn.results = #[.cell t T, .tmp u]) (tmps : Array Value) {P : Program} {w : World} {ad : Addr} {v x : Value} (hp : tmps.getD t undef = .pointer (some ad)) (hx : tmps.getD u undef = x) (hl : (Instr.loadAt T (.pointer (some ad))).run P w = .ok v w) :
    (results fn tmps).run P w = .ok (.tuple #[v, x]) w := by
  have h2 : (loadVar T ad).run P w = .ok v w := by
    simpa [Instr.loadAt, Instr.sureAddr] using hl
  have h3 : (asAddr (tmps.getD t undef)).run P w = .ok ad w := by
    rw [hp]
    rfl
  simp only [Array.getD_eq_getD_getElem?] at h3 hx
  simp [results, h, h3, h2, hx]

structure Out (l : Value) (toks : Toks) (w w' : World) : Prop where
  grown : w.grownBy w' none
  out : OutInv w.heap.size l toks w'

set_option maxRecDepth 100000 in
theorem iparse_calls (rs : List UInt8) (toks : Toks) (hR : Reads rs toks) (hn : toks.length ≤ 1000) (hne : toks ≠ []) (w : World) (htab : Lib.TabIs P w "strings.asciiSpace" .u8 Lib.asciiSpaceTab) :
    Calls Tryd.prog 6 #[.string (bs rs)] w fun e w' => ∃ l, e = .returned (.tuple #[l, .bool true]) ∧ Out l toks w w' := by
  have hmf : ∀ (fn : Fn) (first cap : Array Value) (w : World), (Instr.makeFunc fn first cap).run Tryd.prog w = .ok (.func fn first cap) w := fun _ _ _ _ => rfl
  have ga := World.grownBy_alloc w (.cells #[.string (bs rs)] 9) none
  have gb := World.grownBy_alloc (w.alloc (.cells #[.string (bs rs)] 9)) (.cells #[.slice none 0 0] 23) none
  have z1 : (w.alloc (.cells #[.string (bs rs)] 9)).heap.size = w.heap.size + 1 := by simp
  have z2 : ((w.alloc (.cells #[.string (bs rs)] 9)).alloc (.cells #[.slice none 0 0] 23)).heap.size = w.heap.size + 2 := by simp
  have hb : ((w.alloc (.cells #[.string (bs rs)] 9)).alloc (.cells #[.slice none 0 0] 23)).heap[w.heap.size + 1]? = some (.cells #[.slice none 0 0] 23 (0, 0)) := by
    rw [← z1]
    exact heap_alloc_new _ _
  have hc : ((w.alloc (.cells #[.string (bs rs)] 9)).alloc (.cells #[.slice none 0 0] 23)).heap[w.heap.size]? = some (.cells #[.string (bs rs)] 9 (0, 0)) := by
    rw [gb.block _ (by omega) (by simp)]
    exact heap_alloc_new _ _
  have hq := quietly_calls w.heap.size (w.heap.size + 1) rs toks hR hn hne ((w.alloc (.cells #[.string (bs rs)] 9)).alloc (.cells #[.slice none 0 0] 23)) (cell_of_block hc rfl) hb
    (tab_kept htab fun h0 => by rw [gb.block 0 (by omega) (by simp)]; exact ga.block 0 h0 (by simp))
  have hk : ∀ j, j < w.heap.size → ((w.alloc (.cells #[.string (bs rs)] 9)).alloc (.cells #[.slice none 0 0] 23)).heap[j]? = w.heap[j]? := fun j hj => by
    rw [gb.block j (by omega) (by simp)]
    exact ga.block j hj (by simp)
  clear hb hc ga gb
  go_enter Tryd.func6, Tryd.ntmps6
  go_wp2_with fail
  refine hq.mono ?_
  rintro e w2 ⟨rfl, hC⟩
  obtain ⟨l, hl2, hO⟩ := hC.here
  have c2 : w2.cell? ⟨w.heap.size + 1, 0, none⟩ = some l := cell_of_block hl2 rfl
  have f2 : w2.frozen? ⟨w.heap.size + 1, 0, none⟩ = false := free_of_block hl2
  obtain ⟨ob, cap, cs, it, rfl, hob, h1, h2, h3, h4⟩ := hO
  have z3 := hC.size
  go_wp2_with fail
  have b3 := block_setCell (k := 0) (v := .slice (some ⟨ob, 0, none⟩) 1 cap) hl2
  have hload : (Instr.loadAt 23 (.pointer (some ⟨w.heap.size + 1, 0, none⟩))).run P (w2.setCell ⟨w.heap.size + 1, 0, none⟩ (.slice (some ⟨ob, 0, none⟩) 1 cap)) = .ok (.slice (some ⟨ob, 0, none⟩) 1 cap) (w2.setCell ⟨w.heap.size + 1, 0, none⟩ (.slice (some ⟨ob, 0, none⟩) 1 cap)) := plainB_load plain_23 (cell_of_block b3 rfl)
  refine ⟨rfl, _, results_cell_tmp (T := 23) rfl _ rfl rfl hload, _, rfl, ⟨hC.os, hC.tape, hC.output, ?_, fun j hj _ => ?_⟩, ob, cap, cs, it, rfl, by omega, ?_, h2, h3, ?_⟩
  · simp only [World.setCell, Array.size_modify]
    omega
  · rw [Below.heap_setCell _ _ _ _ (by show j ≠ w.heap.size + 1; omega), hC.block j (by omega) (by omega)]
    exact hk j hj
  · rw [Below.heap_setCell _ _ _ _ (by show ob ≠ w.heap.size + 1; omega)]
    exact h1
  · refine owns_of_block (w := w2) (owns_mono h4 (by omega)) fun k hk => ?_
    have := h4.lt k hk
    exact Below.heap_setCell _ _ _ _ (by show k ≠ w.heap.size + 1; omega)

/-- The text "0". -/
theorem reads_zero : Reads [48] [([48], zeroT)] := by
  refine ⟨by decide, by decide, ⟨48, 48, [], rfl, rfl, by decide, by decide⟩, 1, [48], zeroT, [], ⟨0, [48], 100, zeroT, [([48], zeroT)], some ⟨true, [], [], []⟩, 3⟩, ?_, rfl, fun rb => g0_1 rb []⟩
  refine .step ⟨false, [48], [], []⟩ ⟨by decide, fun _ => ⟨48, rfl, rfl⟩, fun h => absurd rfl h⟩ (fun rb => re0 rb []) (by decide) (by decide) (by decide) (.stop (by decide))

set_option maxRecDepth 100000 in
theorem works_calls (w : World) (htab : Lib.TabIs P w "strings.asciiSpace" .u8 Lib.asciiSpaceTab) : Calls Tryd.prog 5 #[] w fun e w' => e = .returned (.bool true) ∧ w.grownBy w' none := by
  have hp : ∀ s : ByteArray, s = bs [48] → Calls Tryd.prog 6 #[.string s] w fun e w' => ∃ l, e = .returned (.tuple #[l, .bool true]) ∧ Out l [([48], zeroT)] w w' := by
    rintro s rfl
    exact iparse_calls [48] [([48], zeroT)] reads_zero (by decide) (by simp) w htab
  go_enter Tryd.func5, Tryd.ntmps5
  go_wp2_with fail
  refine (hp _ rfl).mono ?_
  rintro e w1 ⟨l, rfl, hO⟩
  obtain ⟨ob, cap, cs, it, rfl, hob, h1, h2, h3, h4⟩ := hO.out
  go_wp2_with fail
  go_ret
  exact ⟨rfl, hO.grown⟩
end Go.Nfp
