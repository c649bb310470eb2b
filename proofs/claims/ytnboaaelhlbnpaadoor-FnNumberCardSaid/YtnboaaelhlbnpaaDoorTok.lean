/- The walks of NumberFormatParser and of impl.token. -/
import Derived.Test.YtnboaaelhlbnpaaDoorPParse
namespace Go.Nfp
open Go Go.Proofs Go.RowKit

theorem load_block {T n : Nat} (hT : aggB T = some n) {w : World} {b : Nat} {cs : List Value} {ty : TypeId} {fz : Nat × Nat} (h : w.heap[b]? = some (.cells cs.toArray ty fz)) (hl : cs.length = n) :
    (Instr.loadAt T (.pointer (some ⟨b, 0, none⟩))).run P w = .ok (.agg cs.toArray) w := by
  refine aggB_load (ad := ⟨b, 0, none⟩) hT hl (fun j z hz => ?_)
  have h2 : cs.toArray[j]? = some z := by simpa using hz
  have := cell_of_block (k := j) h h2
  unfold Addr.add
  split
  · rename_i h0
    subst h0
    exact this
  · simpa using this

theorem agg_parser : aggB tParser = some 12 := by kernel_rfl
theorem agg_58 : aggB 58 = some 3 := by kernel_rfl

set_option maxRecDepth 100000 in
theorem nfp_calls (w : World) : Calls Tryd.prog 15 #[] w fun e w' => e = .returned (.agg zcells) ∧ w.grownBy w' none := by
  go_enter Tryd.func15, Tryd.ntmps15
  go_wp2_with fail
  exact ⟨rfl, _, results_cell (T := tParser) rfl _ rfl (load_block agg_parser (cs := zcells.toList) (heap_alloc_new w _) rfl), rfl, World.grownBy_alloc w _ none⟩

set_option maxRecDepth 100000 in
theorem token_calls (v t : ByteArray) (w : World) : Calls Tryd.prog 17 #[.agg #[.string v, .string t, .slice none 0 0]] w fun e w' => e = .returned (.agg #[.string t, .string v, .slice none 0 0]) ∧ w.grownBy w' none := by
  go_enter Tryd.func17, Tryd.ntmps17
  go_wp2_with fail
  refine wp_loop_rounds 1 ?_
  rw [rounds_succ]
  go_wp2_with fail
  have hb : ∀ (A B C : Obj), (((w.alloc A).alloc B).alloc C).heap[w.heap.size + 1]? = some B ∧ w.grownBy (((w.alloc A).alloc B).alloc C) none := fun A B C => by
    have g1 := World.grownBy_alloc w A none
    have g2 := World.grownBy_alloc (w.alloc A) B none
    have g3 := World.grownBy_alloc ((w.alloc A).alloc B) C none
    have z1 : (w.alloc A).heap.size = w.heap.size + 1 := by simp
    have z2 := lt_of_block (heap_alloc_new (w.alloc A) B)
    refine ⟨?_, rfl, rfl, rfl, Nat.le_trans g1.size (Nat.le_trans g2.size g3.size), fun k hk hne => ?_⟩
    · rw [← z1, g3.block _ z2 (by simp)]
      exact heap_alloc_new (w.alloc A) B
    · rw [g3.block k (by have := g2.size; omega) hne, g2.block k (by omega) hne, g1.block k hk hne]
  obtain ⟨h1, h2⟩ := hb (.cells #[.string v, .string t, .slice none 0 0] 45) (.cells #[.string t, .string v, .slice none 0 0] 58) (.cells #[.string t, .string v, .slice none 0 0] 58)
  exact ⟨rfl, _, results_cell (T := 58) rfl _ rfl (load_block agg_58 (cs := [.string t, .string v, .slice none 0 0]) h1 rfl), rfl, h2⟩
end Go.Nfp
