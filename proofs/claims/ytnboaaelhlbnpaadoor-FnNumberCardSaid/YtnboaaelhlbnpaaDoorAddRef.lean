/- The walk of addRef: adding a token to the list of the first section, where a section stands already and where none does. -/
import Derived.Test.YtnboaaelhlbnpaaDoorVenv
import Derived.Test.YtnboaaelhlbnpaaDoorExec
import Derived.Test.YtnboaaelhlbnpaaDoorProg
import Derived.WalkKit
import Derived.WalkSpells
import Derived.WalkLawsBesides
import Derived.Deep.QuietTactic
import Derived.BigQuiet
import Derived.Lib.Hide
import Derived.KernelRfl
import Derived.OneCell
import Derived.LoopN
import Derived.Maps.AppendAt
namespace Go.Nfp
open Go Go.Proofs Go.RowKit

theorem x_tok {a : Act} {W : World} {dst : Option Tmp} {ty : TypeId} {pos : String} {aft : Array Edge} {gd : Option (Nat × Bool)} {x : Operand} {b : Nat} {v t u : Value}
    (hx : a.eval x = .pointer (some ⟨b, 0, none⟩)) (h0 : W.cell? ⟨b, 0, none⟩ = some v) (h1 : W.cell? ⟨b, 1, none⟩ = some t) (h2 : W.cell? ⟨b, 2, none⟩ = some u) :
    (execOp a.eval ⟨dst, .load tTok x, ty, pos, aft, gd⟩).run P W = .ok (.value (.agg #[v, t, u])) W := by
  have := aggB_load (ad := ⟨b, 0, none⟩) agg_tok (cs := [v, t, u]) rfl (w := W) (fun j z hz => by
    match j, hz with
    | 0, hz => simp at hz; subst hz; simpa [Addr.add] using h0
    | 1, hz => simp at hz; subst hz; simpa [Addr.add] using h1
    | 2, hz => simp at hz; subst hz; simpa [Addr.add] using h2
    | n + 3, hz => simp at hz)
  simp only [execOp, hx, Sem.run_bind, this, Result.andThen_ok, Sem.run_pure]

/-- What adding a token does to the memory that stood: the sections' block has a new list of items, which owns the elder cells and the new ones; nothing else has turned but the elder list's own block. -/
structure Added (bsn n : Nat) (cs : Array Value) (items v t : Value) (xs : List Value) (w w' : World) : Prop where
  os : w'.os = w.os
  tape : w'.tape = w.tape
  output : w'.output = w.output
  size : w.heap.size ≤ w'.heap.size
  block : ∀ k, k < w.heap.size → k ≠ bsn → some k ≠ items.ownBlock → w'.heap[k]? = w.heap[k]?
  turned : ∃ items', w'.heap[bsn]? = some (.cells (cs.setIfInBounds 1 items') tSec (0, 0)) ∧ w'.ownsRow (bsn + 1) tTok 3 items' (n + 1) (xs ++ [v, t, .slice none 0 0]) ∧ (items'.ownBlock = items.ownBlock ∨ ∀ k, items'.ownBlock = some k → w.heap.size ≤ k)

theorem cell_of_block {w : World} {b k : Nat} {cs : Array Value} {ty : TypeId} {fz : Nat × Nat} {v : Value} (h : w.heap[b]? = some (.cells cs ty fz)) (hc : cs[k]? = some v) : w.cell? ⟨b, k, none⟩ = some v := by
  simp [World.cell?, h, hc]
theorem free_of_block {w : World} {b k : Nat} {cs : Array Value} {ty : TypeId} (h : w.heap[b]? = some (.cells cs ty (0, 0))) : w.frozen? ⟨b, k, none⟩ = false := by
  simp [World.frozen?, h]
theorem block_setCell {w : World} {b k : Nat} {cs : Array Value} {ty : TypeId} {v : Value} (h : w.heap[b]? = some (.cells cs ty (0, 0))) : (w.setCell ⟨b, k, none⟩ v).heap[b]? = some (.cells (cs.setIfInBounds k v) ty (0, 0)) := by
  simp [World.setCell, Array.getElem?_modify, h]

/-- What the last region of addRef reads and finds. -/
def Sees (bp bsn cap bt : Nat) (items v t : Value) (W : World) : Prop :=
  W.cell? ⟨bp, 7, none⟩ = some (.int .i64 ((0 : Nat) : Int)) ∧ W.cell? ⟨bp, 8, none⟩ = some (.slice (some ⟨bsn, 0, none⟩) 1 cap) ∧ W.cell? ⟨bsn, 0 + 0 * 2 + 1, none⟩ = some items ∧ W.frozen? ⟨bsn, 0 + 0 * 2 + 1, none⟩ = false ∧
    W.cell? ⟨bt, 0, none⟩ = some v ∧ W.cell? ⟨bt, 1, none⟩ = some t ∧ W.cell? ⟨bt, 2, none⟩ = some (.slice none 0 0)

theorem Sees.grown {bp bsn cap bt : Nat} {items v t : Value} {W W' : World} (h : Sees bp bsn cap bt items v t W) {row : Option Nat} (hg : W.grownBy W' row) (n1 : some bp ≠ row) (n2 : some bsn ≠ row) (n3 : some bt ≠ row) : Sees bp bsn cap bt items v t W' := by
  obtain ⟨h1, h2, h3, h4, h5, h6, h7⟩ := h
  refine ⟨hg.cell h1 n1, hg.cell h2 n1, hg.cell h3 n2, ?_, hg.cell h5 n3, hg.cell h6 n3, hg.cell h7 n3⟩
  rw [World.frozen?_of_block (hg.block bsn (World.block_lt_of_cell? W _ h3) n2)]
  exact h4

theorem owns_one {W : World} {base n : Nat} {v : Value} {xs : List Value} (h : W.ownsRow base tTok 3 v n xs) : v.oneCell' = true := by
  rcases h.2 with ⟨rfl, -⟩ | ⟨g, cap, cur, rfl, -⟩ <;> rfl


set_option maxRecDepth 100000 in
set_option maxHeartbeats 1000000 in
theorem addRef_more (bp bsn cap n : Nat) (pc cs : Array Value) (items v t : Value) (xs : List Value) (w : World)
    (hp : w.heap[bp]? = some (.cells pc tParser (0, 0))) (hp7 : pc[7]? = some (.int .i64 0)) (hp8 : pc[8]? = some (.slice (some ⟨bsn, 0, none⟩) 1 cap)) (hs : w.heap[bsn]? = some (.cells cs tSec (0, 0))) (hc : cs[1]? = some items) (hbn : bp < bsn)
    (hown : w.ownsRow (bsn + 1) tTok 3 items n xs) (hn : n ≤ 1000) (hv : v.oneCell' = true) (ht : t.oneCell' = true) :
    Calls Tryd.prog 47 #[.pointer (some ⟨bp, 6, none⟩), .agg #[v, t, .slice none 0 0]] w fun e w' => e = .returned (.tuple #[]) ∧ Added bsn n cs items v t xs w w' := by
  have h7 : w.cell? ⟨bp, 7, none⟩ = some (.int .i64 0) := cell_of_block hp hp7
  have h8 : w.cell? ⟨bp, 8, none⟩ = some (.slice (some ⟨bsn, 0, none⟩) 1 cap) := cell_of_block hp hp8
  have hi : w.cell? ⟨bsn, 1, none⟩ = some items := cell_of_block hs hc
  have hfz : w.frozen? ⟨bsn, 1, none⟩ = false := free_of_block hs
  have hlt0 := hown.lt
  have nb : items.ownBlock ≠ some bp := fun e => by have := (hlt0 _ e).1; omega
  have ns : items.ownBlock ≠ some bsn := fun e => by have := (hlt0 _ e).1; omega
  obtain ⟨i0, hi0, hz0, hz1, hz2⟩ := info_parts info_tok
  have l7 := World.block_lt_of_cell? w _ h7
  have li := World.block_lt_of_cell? w _ hi
  have k7 : ∀ o, (w.alloc o).cell? ⟨bp, 7, none⟩ = some (.int .i64 0) := fun o => (World.cell?_alloc_lt _ _ _ l7).trans h7
  have k8 : ∀ o, (w.alloc o).cell? ⟨bp, 8, none⟩ = some (.slice (some ⟨bsn, 0, none⟩) 1 cap) := fun o => (World.cell?_alloc_lt w o ⟨bp, 8, none⟩ l7).trans h8
  have KI : ∀ o, (w.alloc o).cell? ⟨bsn, 1, none⟩ = some items := fun o => (World.cell?_alloc_lt w o ⟨bsn, 1, none⟩ li).trans hi
  have HI := Lib.hid hi
  have HKI := Lib.hid KI
  clear h7 h8 KI hi
  go_enter Tryd.func47, Tryd.ntmps47
  go_wp2_with fail
  go_quiet (fail)
  go_wp2_with fail
  have hi := HI.out
  have KI := HKI.out
  generalize hW0 : World.drewN _ _ = W0
  have hsee : Sees bp bsn cap w.heap.size items v t W0 := by
    subst hW0
    refine ⟨k7 _, k8 _, KI _, ?_, World.cell?_alloc_new w _ _ 0, World.cell?_alloc_new w _ _ 1, World.cell?_alloc_new w _ _ 2⟩
    exact (World.frozen?_alloc_old w _ ⟨bsn, 1, none⟩ (Nat.ne_of_lt li)).trans hfz
  have hown0 : W0.ownsRow (bsn + 1) tTok 3 items n xs := by
    subst hW0
    exact hown.alloc _
  have hg0 : w.grownBy W0 none := by
    subst hW0
    exact ⟨rfl, rfl, rfl, by simp [World.drewN], (World.grownBy_alloc w (.cells #[v, t, .slice none 0 0] 45) none).block⟩
  generalize haa : ({ tmps := _, defers := _ } : Act) = a
  have hr : VRel 72 [(0, .pointer (some ⟨bp, 6, none⟩)), (3, .pointer (some ⟨w.heap.size, 0, none⟩))] a := by
    subst haa
    refine VRel.also (VRel.also (VRel.of ?_ ?_) ?_) ?_ <;> rfl
  clear haa
  refine wp_region_heldlast 20 (Sees bp bsn cap w.heap.size items v t) (by kernel_rfl) (by kernel_rfl) ?_ hsee ?_
  · intro c a t v w h
    cases t <;> exact h
  · simp only [List.take_succ_cons, List.take_zero, List.drop_succ_cons, List.drop_zero]
    refine q_env (.pointer (some ⟨bp, 6, none⟩)) hr rfl rfl rfl (fun a W hr hW => x_move (hr.arg rfl)) (fun a hr => ?_)
    refine q_env (.pointer (some ⟨bp, 6, none⟩)) hr rfl rfl rfl (fun a W hr hW => x_nil (hr.arg rfl)) (fun a hr => ?_)
    refine q_env (.pointer (some ⟨bp, 8, none⟩)) hr rfl rfl rfl (fun a W hr hW => x_field fS2 (hr.arg rfl)) (fun a hr => ?_)
    refine q_env (.slice (some ⟨bsn, 0, none⟩) 1 cap) hr rfl rfl rfl (fun a W hr hW => x_load plain_secs (hr.arg rfl) hW.2.1) (fun a hr => ?_)
    refine q_env (.pointer (some ⟨bp, 6, none⟩)) hr rfl rfl rfl (fun a W hr hW => x_move (hr.arg rfl)) (fun a hr => ?_)
    refine q_env (.pointer (some ⟨bp, 6, none⟩)) hr rfl rfl rfl (fun a W hr hW => x_nil (hr.arg rfl)) (fun a hr => ?_)
    refine q_env (.pointer (some ⟨bp, 7, none⟩)) hr rfl rfl rfl (fun a W hr hW => x_field fS1 (hr.arg rfl)) (fun a hr => ?_)
    refine q_env (.int .i64 ((0 : Nat) : Int)) hr rfl rfl rfl (fun a W hr hW => x_load plain_int (hr.arg rfl) hW.1) (fun a hr => ?_)
    refine q_env (.pointer (some ⟨bp, 6, none⟩)) hr rfl rfl rfl (fun a W hr hW => x_move (hr.arg rfl)) (fun a hr => ?_)
    refine q_env (.pointer (some ⟨bp, 6, none⟩)) hr rfl rfl rfl (fun a W hr hW => x_nil (hr.arg rfl)) (fun a hr => ?_)
    refine q_env (.pointer (some ⟨bp, 8, none⟩)) hr rfl rfl rfl (fun a W hr hW => x_field fS2 (hr.arg rfl)) (fun a hr => ?_)
    refine q_env (.slice (some ⟨bsn, 0, none⟩) 1 cap) hr rfl rfl rfl (fun a W hr hW => x_load plain_secs (hr.arg rfl) hW.2.1) (fun a hr => ?_)
    refine q_env (.pointer (some ⟨bp, 6, none⟩)) hr rfl rfl rfl (fun a W hr hW => x_move (hr.arg rfl)) (fun a hr => ?_)
    refine q_env (.pointer (some ⟨bp, 6, none⟩)) hr rfl rfl rfl (fun a W hr hW => x_nil (hr.arg rfl)) (fun a hr => ?_)
    refine q_env (.pointer (some ⟨bp, 7, none⟩)) hr rfl rfl rfl (fun a W hr hW => x_field fS1 (hr.arg rfl)) (fun a hr => ?_)
    refine q_env (.int .i64 ((0 : Nat) : Int)) hr rfl rfl rfl (fun a W hr hW => x_load plain_int (hr.arg rfl) hW.1) (fun a hr => ?_)
    refine q_env (.pointer (some ⟨bsn, 0 + 0 * 2, none⟩)) hr rfl rfl rfl (fun a W hr hW => x_index slice_secs (hr.arg rfl) (hr.arg rfl) (by omega)) (fun a hr => ?_)
    refine q_env (.pointer (some ⟨bsn, 0 + 0 * 2 + 1, none⟩)) hr rfl rfl rfl (fun a W hr hW => x_field fC1 (hr.arg rfl)) (fun a hr => ?_)
    refine q_env items hr rfl rfl rfl (fun a W hr hW => x_load plain_items (hr.arg rfl) hW.2.2.1) (fun a hr => ?_)
    refine q_env (.agg #[v, t, .slice none 0 0]) hr rfl rfl rfl (fun a W hr hW => x_tok (hr.arg rfl) hW.2.2.2.2.1 hW.2.2.2.2.2.1 hW.2.2.2.2.2.2) (fun a hr => ?_)
    refine wpQuiet_nil ?_
    have hlt := hown.lt
    have nt : some w.heap.size ≠ items.ownBlock := (fun e => by have := (hlt _ e.symm).2; omega)
    generalize hW1 : ({ W0 with drawn := W0.drawn + 1 } : World) = W1
    have hsee1 : Sees bp bsn cap w.heap.size items v t W1 := by
      subst hW1
      exact hsee
    have hown1 : W1.ownsRow (bsn + 1) tTok 3 items n xs := by
      subst hW1
      exact hown0
    have hg1 : w.grownBy W1 none := by
      subst hW1
      exact ⟨hg0.os, hg0.tape, hg0.output, hg0.size, hg0.block⟩
    clear hW1 hsee hown0 hg0
    have ga := World.grownBy_alloc W1 (.cells #[v, t, .slice none 0 0] tTok) none
    have hsee2 := hsee1.grown ga (by simp) (by simp) (by simp)
    refine t_env (.slice (some ⟨W1.heap.size, 0, none⟩) 1 1) (W1.alloc (.cells #[v, t, .slice none 0 0] tTok)) hr rfl rfl rfl (fun a hr => x_buildSlice (hr.arg rfl) (build_tok_slice W1 _ _ _)) (fun _ => hsee2) (fun a hr => ?_)
    obtain ⟨v', W3, hrun, hown3, hg3, -, hat⟩ := run_append_own_at (P := P) (W1.alloc (.cells #[v, t, .slice none 0 0] tTok)) (bsn + 1) tItems tItems tTok i0 _ 3 56 under_items hi0 hz0 hz1 hz2 rfl (by omega) items n xs (hown1.alloc _) ⟨W1.heap.size, 0, none⟩ 1 1 [v, t, .slice none 0 0] rfl
      (fun j u hu => by
        match j, hu with
        | 0, hu => simp at hu; subst hu; exact World.cell?_alloc_new W1 _ _ 0
        | 1, hu => simp at hu; subst hu; exact World.cell?_alloc_new W1 _ _ 1
        | 2, hu => simp at hu; subst hu; exact World.cell?_alloc_new W1 _ _ 2
        | m + 3, hu => simp at hu)
      (fun u hu => by
        simp only [List.mem_cons, List.not_mem_nil, or_false] at hu
        rcases hu with rfl | rfl | rfl
        · exact hv
        · exact ht
        · rfl)
      (by simp only [maxLen]; omega) (by omega) (by have := hg1.size; have := ga.size; omega)
    have hsee3 := hsee2.grown hg3 (Ne.symm nb) (Ne.symm ns) nt
    refine t_env v' W3 hr rfl rfl rfl (fun a hr => x_append (hr.arg rfl) (hr.arg rfl) hrun) (fun _ => hsee3) (fun a hr => ?_)
    refine t_env (.pointer (some ⟨bsn, 0 + 0 * 2, none⟩)) W3 hr rfl rfl rfl (fun a hr => x_index slice_secs (hr.arg rfl) (hr.arg rfl) (by omega)) (fun _ => hsee3) (fun a hr => ?_)
    refine t_env (.pointer (some ⟨bsn, 0 + 0 * 2 + 1, none⟩)) W3 hr rfl rfl rfl (fun a hr => x_field fC1 (hr.arg rfl)) (fun _ => hsee3) (fun a hr => ?_)
    refine t_done (W3.setCell ⟨bsn, 0 + 0 * 2 + 1, none⟩ v') hr rfl rfl (fun a hr => x_store (hr.arg rfl) (hr.arg rfl) (one_store size_items (owns_one hown3) hsee3.2.2.1 hsee3.2.2.2.1)) (fun h => absurd rfl h) (fun a hr => ?_)
    have hsz : W1.heap.size ≤ W3.heap.size := by have := hg3.size; have := ga.size; omega
    have hold : ∀ k, k < w.heap.size → some k ≠ items.ownBlock → W3.heap[k]? = w.heap[k]? := fun k hk hne => by
      have h1 := hg1.size
      rw [hg3.block k (by have := ga.size; omega) hne, ga.block k (by omega) (by simp), hg1.block k hk (by simp)]
    have hadd : Added bsn n cs items v t xs w (W3.setCell ⟨bsn, 0 + 0 * 2 + 1, none⟩ v') := by
      refine ⟨hg3.os.trans hg1.os, hg3.tape.trans hg1.tape, hg3.output.trans hg1.output, ?_, fun k hk hne hni => ?_, v', ?_, ?_, ?_⟩
      · have := hg1.size
        simp only [World.setCell, Array.size_modify]
        omega
      · rw [Below.heap_setCell _ _ _ _ hne]
        exact hold k hk hni
      · exact block_setCell ((hold bsn li (Ne.symm ns)).trans hs)
      · refine ownsRow_setCell_other hown3 (fun e => ?_) _
        have h9 : bsn + 1 ≤ bsn := (hown3.lt _ e).1
        omega
      · rcases hat with hat | hat
        · exact .inl hat
        · refine .inr fun k hk => ?_
          rw [hat] at hk
          cases hk
          have := hg1.size
          have := ga.size
          omega
    refine ⟨hr.defers, .tuple #[], by kernel_rfl, rfl, ?_⟩
    exact hadd

/-- What adding the very first token does: there is a section, of the first type, that holds the token. -/
structure First (bp : Nat) (pc : Array Value) (v t : Value) (w w' : World) : Prop where
  os : w'.os = w.os
  tape : w'.tape = w.tape
  output : w'.output = w.output
  size : w.heap.size ≤ w'.heap.size
  block : ∀ k, k < w.heap.size → k ≠ bp → w'.heap[k]? = w.heap[k]?
  turned : ∃ bsn cap cs items', w'.heap[bp]? = some (.cells (pc.setIfInBounds 8 (.slice (some ⟨bsn, 0, none⟩) 1 cap)) tParser (0, 0)) ∧ w.heap.size ≤ bsn ∧ w'.heap[bsn]? = some (.cells cs tSec (0, 0)) ∧
    cs[0]? = some (.string ⟨#[80, 111, 115, 105, 116, 105, 118, 101]⟩) ∧ cs[1]? = some items' ∧ w'.ownsRow (bsn + 1) tTok 3 items' 1 [v, t, .slice none 0 0] ∧ ∀ k, items'.ownBlock = some k → w.heap.size ≤ k

set_option maxRecDepth 100000 in
set_option maxHeartbeats 1000000 in
theorem addRef_first (bp : Nat) (pc : Array Value) (v t : Value) (w : World)
    (hp : w.heap[bp]? = some (.cells pc tParser (0, 0))) (hp7 : pc[7]? = some (.int .i64 0)) (hp8 : pc[8]? = some (.slice none 0 0)) (hv : v.oneCell' = true) (ht : t.oneCell' = true) :
    Calls Tryd.prog 47 #[.pointer (some ⟨bp, 6, none⟩), .agg #[v, t, .slice none 0 0]] w fun e w' => e = .returned (.tuple #[]) ∧ First bp pc v t w w' := by
  obtain ⟨i0, hi0, hz0, hz1, hz2⟩ := info_parts info_tok
  have h7 : w.cell? ⟨bp, 7, none⟩ = some (.int .i64 0) := cell_of_block hp hp7
  have h8 : w.cell? ⟨bp, 8, none⟩ = some (.slice none 0 0) := cell_of_block hp hp8
  have l7 := World.block_lt_of_cell? w _ h7
  have k7 : ∀ o, (w.alloc o).cell? ⟨bp, 7, none⟩ = some (.int .i64 0) := fun o => (World.cell?_alloc_lt _ _ _ l7).trans h7
  have k8 : ∀ o, (w.alloc o).cell? ⟨bp, 8, none⟩ = some (.slice none 0 0) := fun o => (World.cell?_alloc_lt w o ⟨bp, 8, none⟩ l7).trans h8
  clear h7 h8
  go_enter Tryd.func47, Tryd.ntmps47
  go_wp2_with fail
  go_quiet (fail)
  go_wp2_with fail
  generalize hW1 : World.alloc (World.drewN _ _) _ = W1
  have g1 : w.grownBy W1 none := by
    subst hW1
    have ga := World.grownBy_alloc w (.cells #[v, t, .slice none 0 0] 45) none
    have gb := World.grownBy_alloc ((w.alloc (Obj.cells #[v, t, .slice none 0 0] 45)).drewN nq) (Obj.cells #[Value.string { data := #[80, 111, 115, 105, 116, 105, 118, 101] }, Value.string { data := #[78, 101, 103, 97, 116, 105, 118, 101] }, Value.string { data := #[90, 101, 114, 111] }, Value.string { data := #[84, 101, 120, 116] }] 9) none
    refine ⟨rfl, rfl, rfl, by have := ga.size; have := gb.size; exact Nat.le_trans ‹_› ‹_›, fun k hk hne => (gb.block k ?_ hne).trans (ga.block k hk hne)⟩
    exact Nat.lt_of_lt_of_le hk ga.size
  have b1 : W1.heap[w.heap.size]? = some (.cells #[v, t, .slice none 0 0] tTok (0, 0)) := by
    subst hW1
    rw [Below.heap_alloc _ _ _ (by simp [World.drewN])]
    exact heap_alloc_new w _
  have p1 : W1.heap[bp]? = some (.cells pc tParser (0, 0)) := (g1.block bp l7 (by simp)).trans hp
  have q7 : W1.cell? ⟨bp, 7, none⟩ = some (.int .i64 0) := cell_of_block p1 hp7
  have q8 : W1.cell? ⟨bp, 8, none⟩ = some (.slice none 0 0) := cell_of_block p1 hp8
  have q8a : ∀ o, (W1.alloc o).cell? ⟨bp, 8, none⟩ = some (.slice none 0 0) := fun o => (World.cell?_alloc_lt W1 o ⟨bp, 8, none⟩ (lt_of_block p1)).trans q8
  clear hW1
  refine wp_loop_rounds 2 ?_
  rw [rounds_succ]
  clear k7 k8
  obtain ⟨i1, hi1, hy0, hy1, hy2⟩ := info_parts info_sec
  go_wp2_with (at_builtin; refine wpList_append_own _ rfl _ _ 40 rfl W1.heap.size 52 i1 _ 2 40 under_secs hi1 hy0 hy1 hy2 rfl (by decide) (.slice none 0 0) 0 [] rfl (World.ownsRow_nil _ _ _ _) ⟨W1.heap.size, 0, none⟩ 1 1 [.string ⟨#[80, 111, 115, 105, 116, 105, 118, 101]⟩, .slice none 0 0] rfl rfl ?c1 ?c2 (by decide) (by decide) (by simp) ?_)
  case c1 =>
    intro j u hu
    match j, hu with
    | 0, hu => simp at hu; subst hu; exact World.cell?_alloc_new W1 _ _ 0
    | 1, hu => simp at hu; subst hu; exact World.cell?_alloc_new W1 _ _ 1
    | m + 2, hu => simp at hu
  case c2 =>
    intro u hu
    simp only [List.mem_cons, List.not_mem_nil, or_false] at hu
    rcases hu with rfl | rfl <;> rfl
  intro v' W2 hown2 hg2 hnil
  rcases hown2.2 with ⟨-, h⟩ | ⟨bsn, cap, cur, rfl, hgb, hh, hc1, hc2, hc3, htk⟩
  · cases h
  have l1 := lt_of_block p1
  have ga := World.grownBy_alloc W1 (.cells #[.string ⟨#[80, 111, 115, 105, 116, 105, 118, 101]⟩, .slice none 0 0] 52) none
  have p2 : W2.heap[bp]? = some (.cells pc tParser (0, 0)) := by
    rw [hg2.block bp (Nat.lt_of_lt_of_le l1 ga.size) (by simp [Value.ownBlock]), ga.block bp l1 (by simp)]
    exact p1
  have r8 : W2.cell? ⟨bp, 8, none⟩ = some (.slice none 0 0) := cell_of_block p2 hp8
  have f8 : W2.frozen? ⟨bp, 8, none⟩ = false := free_of_block p2
  have r7 : (W2.setCell ⟨bp, 8, none⟩ (.slice (some ⟨bsn, 0, none⟩) 1 cap)).cell? ⟨bp, 7, none⟩ = some (.int .i64 0) := cell_of_block (block_setCell p2) (by simpa using hp7)
  clear q7 q8 q8a
  have lb := Nat.le_of_lt l1
  go_wp2_with fail
  rw [rounds_succ]
  go_wp2_with fail
  have l2 := lt_of_block p2
  have ls := lt_of_block hh
  have gw : ∀ k, k < w.heap.size → W2.heap[k]? = w.heap[k]? := fun k hk => by
    have := g1.size
    rw [hg2.block k (by have := ga.size; omega) (by simp [Value.ownBlock]), ga.block k (by omega) (by simp), g1.block k hk (by simp)]
  have hsz0 : w.heap.size ≤ W2.heap.size := by
    have := g1.size
    have := ga.size
    have := hg2.size
    omega
  have c0 : cur[0]? = some (.string ⟨#[80, 111, 115, 105, 116, 105, 118, 101]⟩) := by
    have := congrArg (fun l => l[0]?) htk
    simpa [List.getElem?_take] using this
  have c1 : cur[1]? = some (.slice none 0 0) := by
    have := congrArg (fun l => l[1]?) htk
    simpa [List.getElem?_take] using this
  have hbn : bp < bsn := by omega
  have hbt : W2.heap[w.heap.size]? = some (.cells #[v, t, .slice none 0 0] tTok (0, 0)) := by
    have lbt := lt_of_block b1
    rw [hg2.block _ (by have := ga.size; omega) (by simp [Value.ownBlock]), ga.block _ lbt (by simp)]
    exact b1
  have htb : w.heap.size < bsn := by have := lt_of_block b1; omega
  generalize hcs : cur = cs at hh c0 c1
  generalize hWf : W2.setCell ⟨bp, 8, none⟩ (.slice (some ⟨bsn, 0, none⟩) 1 cap) = Wf
  have pf : Wf.heap[bp]? = some (.cells (pc.setIfInBounds 8 (.slice (some ⟨bsn, 0, none⟩) 1 cap)) tParser (0, 0)) := by
    subst hWf
    exact block_setCell p2
  have kf : ∀ k, k ≠ bp → Wf.heap[k]? = W2.heap[k]? := fun k hk => by
    subst hWf
    exact Below.heap_setCell _ _ _ _ hk
  have hszf : Wf.heap.size = W2.heap.size := by
    subst hWf
    simp [World.setCell]
  have eos : Wf.os = w.os ∧ Wf.tape = w.tape ∧ Wf.output = w.output := by
    subst hWf
    exact ⟨hg2.os.trans g1.os, hg2.tape.trans g1.tape, hg2.output.trans g1.output⟩
  have l8 : 8 < pc.size := (Array.getElem?_eq_some_iff.1 hp8).1
  have hs : Wf.heap[bsn]? = some (.cells cs tSec (0, 0)) := (kf bsn (by omega)).trans hh
  have hbf := (kf w.heap.size (by omega)).trans hbt
  have hsee : Sees bp bsn cap w.heap.size (.slice none 0 0) v t Wf :=
    ⟨cell_of_block pf (by simpa using hp7), cell_of_block pf (by simp [l8]), cell_of_block hs c1, free_of_block hs, cell_of_block hbf rfl, cell_of_block hbf rfl, cell_of_block hbf rfl⟩
  have hown : Wf.ownsRow (bsn + 1) tTok 3 (.slice none 0 0) 0 [] := World.ownsRow_nil _ _ _ _
  have hlt0 := hown.lt
  have nb : (Value.slice none 0 0).ownBlock ≠ some bp := by simp [Value.ownBlock]
  have ns : (Value.slice none 0 0).ownBlock ≠ some bsn := by simp [Value.ownBlock]
  have li : bsn < Wf.heap.size := by omega
  have hg0 : Wf.grownBy Wf none := ⟨rfl, rfl, rfl, Nat.le_refl _, fun _ _ _ => rfl⟩
  have hown0 := hown
  clear hcs hg2 hh hc1 hc2 hc3 htk ga p2 r8 f8 r7 hWf hbt b1 p1 hgb hnil hown2 g1
  generalize haa : ({ tmps := _, defers := _ } : Act) = a
  have hr : VRel 72 [(0, .pointer (some ⟨bp, 6, none⟩)), (3, .pointer (some ⟨w.heap.size, 0, none⟩))] a := by
    subst haa
    refine VRel.also (VRel.also (VRel.of ?_ ?_) ?_) ?_ <;> rfl
  clear haa
  refine wp_region_heldlast 20 (Sees bp bsn cap w.heap.size (Value.slice none 0 0) v t) (by kernel_rfl) (by kernel_rfl) ?_ hsee ?_
  · intro c a t v w h
    cases t <;> exact h
  · simp only [List.take_succ_cons, List.take_zero, List.drop_succ_cons, List.drop_zero]
    refine q_env (.pointer (some ⟨bp, 6, none⟩)) hr rfl rfl rfl (fun a W hr hW => x_move (hr.arg rfl)) (fun a hr => ?_)
    refine q_env (.pointer (some ⟨bp, 6, none⟩)) hr rfl rfl rfl (fun a W hr hW => x_nil (hr.arg rfl)) (fun a hr => ?_)
    refine q_env (.pointer (some ⟨bp, 8, none⟩)) hr rfl rfl rfl (fun a W hr hW => x_field fS2 (hr.arg rfl)) (fun a hr => ?_)
    refine q_env (.slice (some ⟨bsn, 0, none⟩) 1 cap) hr rfl rfl rfl (fun a W hr hW => x_load plain_secs (hr.arg rfl) hW.2.1) (fun a hr => ?_)
    refine q_env (.pointer (some ⟨bp, 6, none⟩)) hr rfl rfl rfl (fun a W hr hW => x_move (hr.arg rfl)) (fun a hr => ?_)
    refine q_env (.pointer (some ⟨bp, 6, none⟩)) hr rfl rfl rfl (fun a W hr hW => x_nil (hr.arg rfl)) (fun a hr => ?_)
    refine q_env (.pointer (some ⟨bp, 7, none⟩)) hr rfl rfl rfl (fun a W hr hW => x_field fS1 (hr.arg rfl)) (fun a hr => ?_)
    refine q_env (.int .i64 ((0 : Nat) : Int)) hr rfl rfl rfl (fun a W hr hW => x_load plain_int (hr.arg rfl) hW.1) (fun a hr => ?_)
    refine q_env (.pointer (some ⟨bp, 6, none⟩)) hr rfl rfl rfl (fun a W hr hW => x_move (hr.arg rfl)) (fun a hr => ?_)
    refine q_env (.pointer (some ⟨bp, 6, none⟩)) hr rfl rfl rfl (fun a W hr hW => x_nil (hr.arg rfl)) (fun a hr => ?_)
    refine q_env (.pointer (some ⟨bp, 8, none⟩)) hr rfl rfl rfl (fun a W hr hW => x_field fS2 (hr.arg rfl)) (fun a hr => ?_)
    refine q_env (.slice (some ⟨bsn, 0, none⟩) 1 cap) hr rfl rfl rfl (fun a W hr hW => x_load plain_secs (hr.arg rfl) hW.2.1) (fun a hr => ?_)
    refine q_env (.pointer (some ⟨bp, 6, none⟩)) hr rfl rfl rfl (fun a W hr hW => x_move (hr.arg rfl)) (fun a hr => ?_)
    refine q_env (.pointer (some ⟨bp, 6, none⟩)) hr rfl rfl rfl (fun a W hr hW => x_nil (hr.arg rfl)) (fun a hr => ?_)
    refine q_env (.pointer (some ⟨bp, 7, none⟩)) hr rfl rfl rfl (fun a W hr hW => x_field fS1 (hr.arg rfl)) (fun a hr => ?_)
    refine q_env (.int .i64 ((0 : Nat) : Int)) hr rfl rfl rfl (fun a W hr hW => x_load plain_int (hr.arg rfl) hW.1) (fun a hr => ?_)
    refine q_env (.pointer (some ⟨bsn, 0 + 0 * 2, none⟩)) hr rfl rfl rfl (fun a W hr hW => x_index slice_secs (hr.arg rfl) (hr.arg rfl) (by omega)) (fun a hr => ?_)
    refine q_env (.pointer (some ⟨bsn, 0 + 0 * 2 + 1, none⟩)) hr rfl rfl rfl (fun a W hr hW => x_field fC1 (hr.arg rfl)) (fun a hr => ?_)
    refine q_env (Value.slice none 0 0) hr rfl rfl rfl (fun a W hr hW => x_load plain_items (hr.arg rfl) hW.2.2.1) (fun a hr => ?_)
    refine q_env (.agg #[v, t, .slice none 0 0]) hr rfl rfl rfl (fun a W hr hW => x_tok (hr.arg rfl) hW.2.2.2.2.1 hW.2.2.2.2.2.1 hW.2.2.2.2.2.2) (fun a hr => ?_)
    refine wpQuiet_nil ?_
    have hlt := hown.lt
    have nt : some w.heap.size ≠ (Value.slice none 0 0).ownBlock := by simp [Value.ownBlock]
    generalize hW1 : ({ Wf with drawn := Wf.drawn + 1 } : World) = W1
    have hsee1 : Sees bp bsn cap w.heap.size (Value.slice none 0 0) v t W1 := by
      subst hW1
      exact hsee
    have hown1 : W1.ownsRow (bsn + 1) tTok 3 (Value.slice none 0 0) 0 [] := by
      subst hW1
      exact hown0
    have hg1 : Wf.grownBy W1 none := by
      subst hW1
      exact ⟨hg0.os, hg0.tape, hg0.output, hg0.size, hg0.block⟩
    clear hW1 hsee hown0 hg0
    have ga := World.grownBy_alloc W1 (.cells #[v, t, .slice none 0 0] tTok) none
    have hsee2 := hsee1.grown ga (by simp) (by simp) (by simp)
    refine t_env (.slice (some ⟨W1.heap.size, 0, none⟩) 1 1) (W1.alloc (.cells #[v, t, .slice none 0 0] tTok)) hr rfl rfl rfl (fun a hr => x_buildSlice (hr.arg rfl) (build_tok_slice W1 _ _ _)) (fun _ => hsee2) (fun a hr => ?_)
    obtain ⟨v', W3, hrun, hown3, hg3, -, hat⟩ := run_append_own_at (P := P) (W1.alloc (.cells #[v, t, .slice none 0 0] tTok)) (bsn + 1) tItems tItems tTok i0 _ 3 56 under_items hi0 hz0 hz1 hz2 rfl (by omega) (Value.slice none 0 0) 0 [] (hown1.alloc _) ⟨W1.heap.size, 0, none⟩ 1 1 [v, t, .slice none 0 0] rfl
      (fun j u hu => by
        match j, hu with
        | 0, hu => simp at hu; subst hu; exact World.cell?_alloc_new W1 _ _ 0
        | 1, hu => simp at hu; subst hu; exact World.cell?_alloc_new W1 _ _ 1
        | 2, hu => simp at hu; subst hu; exact World.cell?_alloc_new W1 _ _ 2
        | m + 3, hu => simp at hu)
      (fun u hu => by
        simp only [List.mem_cons, List.not_mem_nil, or_false] at hu
        rcases hu with rfl | rfl | rfl
        · exact hv
        · exact ht
        · rfl)
      (by simp only [maxLen]; omega) (by omega) (by have := hg1.size; have := ga.size; omega)
    have hsee3 := hsee2.grown hg3 (Ne.symm nb) (Ne.symm ns) nt
    refine t_env v' W3 hr rfl rfl rfl (fun a hr => x_append (hr.arg rfl) (hr.arg rfl) hrun) (fun _ => hsee3) (fun a hr => ?_)
    refine t_env (.pointer (some ⟨bsn, 0 + 0 * 2, none⟩)) W3 hr rfl rfl rfl (fun a hr => x_index slice_secs (hr.arg rfl) (hr.arg rfl) (by omega)) (fun _ => hsee3) (fun a hr => ?_)
    refine t_env (.pointer (some ⟨bsn, 0 + 0 * 2 + 1, none⟩)) W3 hr rfl rfl rfl (fun a hr => x_field fC1 (hr.arg rfl)) (fun _ => hsee3) (fun a hr => ?_)
    refine t_done (W3.setCell ⟨bsn, 0 + 0 * 2 + 1, none⟩ v') hr rfl rfl (fun a hr => x_store (hr.arg rfl) (hr.arg rfl) (one_store size_items (owns_one hown3) hsee3.2.2.1 hsee3.2.2.2.1)) (fun h => absurd rfl h) (fun a hr => ?_)
    have hsz : W1.heap.size ≤ W3.heap.size := by have := hg3.size; have := ga.size; omega
    have hold : ∀ k, k < Wf.heap.size → some k ≠ (Value.slice none 0 0).ownBlock → W3.heap[k]? = Wf.heap[k]? := fun k hk hne => by
      have h1 := hg1.size
      rw [hg3.block k (by have := ga.size; omega) hne, ga.block k (by omega) (by simp), hg1.block k hk (by simp)]
    have hadd : Added bsn 0 cs (Value.slice none 0 0) v t [] Wf (W3.setCell ⟨bsn, 0 + 0 * 2 + 1, none⟩ v') := by
      refine ⟨hg3.os.trans hg1.os, hg3.tape.trans hg1.tape, hg3.output.trans hg1.output, ?_, fun k hk hne hni => ?_, v', ?_, ?_, ?_⟩
      · have := hg1.size
        simp only [World.setCell, Array.size_modify]
        omega
      · rw [Below.heap_setCell _ _ _ _ hne]
        exact hold k hk hni
      · exact block_setCell ((hold bsn li (Ne.symm ns)).trans hs)
      · refine ownsRow_setCell_other hown3 (fun e => ?_) _
        have h9 : bsn + 1 ≤ bsn := (hown3.lt _ e).1
        omega
      · rcases hat with hat | hat
        · exact .inl hat
        · refine .inr fun k hk => ?_
          rw [hat] at hk
          cases hk
          have := hg1.size
          have := ga.size
          omega
    refine ⟨hr.defers, .tuple #[], by kernel_rfl, rfl, ?_⟩
    obtain ⟨items', ht1, ht2, ht3⟩ := hadd.turned
    refine ⟨hadd.os.trans eos.1, hadd.tape.trans eos.2.1, hadd.output.trans eos.2.2, by have := hadd.size; omega, fun k hk hne => ?_, bsn, cap, _, items', ?_, by omega, ht1, ?_, ?_, ht2, fun k hk => ?_⟩
    · rw [hadd.block k (by omega) (by omega) (by simp [Value.ownBlock]), kf k hne, gw k hk]
    · rw [hadd.block bp (by omega) (by omega) (by simp [Value.ownBlock])]
      exact pf
    · simpa using c0
    · have l1 : 1 < cs.size := (Array.getElem?_eq_some_iff.1 c1).1
      simp [l1]
    · rcases ht3 with ht3 | ht3
      · rw [ht3] at hk
        simp [Value.ownBlock] at hk
      · have := ht3 k hk
        omega

end Go.Nfp
