/- The walk of impl.Parse's closure: the sections of a text as data, at a text of one section. -/
import Derived.Test.YtnboaaelhlbnpaaDoorInner
namespace Go.Nfp
open Go Go.Proofs Go.RowKit

theorem enter15 (w : World) (args : Array Value) : (callFunc 15 args).run P w = .ok (.enter 15 args) w := by kernel_rfl
theorem enter16 (w : World) (args : Array Value) : (callFunc 16 args).run P w = .ok (.enter 16 args) w := by kernel_rfl
theorem alloc47 (ρ : Operand → Value) (d : Nat) (ty : TypeId) (pos : String) (aft : Array Edge) (w : World) : (execOp ρ ⟨some d, .alloc 47, ty, pos, aft, none⟩).run P w = .ok (.value (.pointer (some ⟨w.heap.size, 0, none⟩))) (w.alloc (.cells zcells tParser)) := by kernel_rfl
theorem alloc52 (ρ : Operand → Value) (d : Nat) (ty : TypeId) (pos : String) (aft : Array Edge) (w : World) : (execOp ρ ⟨some d, .alloc 52, ty, pos, aft, none⟩).run P w = .ok (.value (.pointer (some ⟨w.heap.size, 0, none⟩))) (w.alloc (.cells #[.string ⟨#[]⟩, .slice none 0 0] tSec)) := by kernel_rfl
theorem alloc55 (ρ : Operand → Value) (d : Nat) (ty : TypeId) (pos : String) (aft : Array Edge) (w : World) : (execOp ρ ⟨some d, .alloc 55, ty, pos, aft, none⟩).run P w = .ok (.value (.pointer (some ⟨w.heap.size, 0, none⟩))) (w.alloc (.cells #[.string ⟨#[]⟩, .slice none 0 0] 55)) := by kernel_rfl
theorem agg_52 : aggB tSec = some 2 := by kernel_rfl
theorem agg_55 : aggB 55 = some 2 := by kernel_rfl
theorem size_47 : sizeB tParser = some 12 := by kernel_rfl
theorem size_52 : sizeB tSec = some 2 := by kernel_rfl
theorem size_55 : sizeB 55 = some 2 := by kernel_rfl
theorem size_23 : sizeB 23 = some 1 := by kernel_rfl
theorem plain_23 : plainB 23 = true := by kernel_rfl
theorem under_23 : P.underlying 23 = some (.slice 55) := by kernel_rfl
theorem f52_0 : fieldB tSec 0 = some 0 := by kernel_rfl
theorem info_55 : (P.info? 55).map (fun i => (i.zero, i.size, i.bytes)) = some (some (.agg #[.string ⟨#[]⟩, .slice none 0 0]), 2, 40) := by kernel_rfl
theorem build_55 (w : World) (b : ByteArray) (ρ : Operand → Value) (x : Operand) (d : Nat) (pos : String) (aft : Array Edge) (hx : ρ x = .string b) : (execOp ρ ⟨some d, .build 55 #[(0, x)], 55, pos, aft, none⟩).run P w = .ok (.value (.agg #[.string b, .slice none 0 0])) w := by
  have h : (execOp (fun _ => .string b) ⟨some d, .build 55 #[(0, x)], 55, pos, aft, none⟩).run P w = .ok (.value (.agg #[.string b, .slice none 0 0])) w := by kernel_rfl
  simp only [execOp, List.map_toArray, List.map_cons, List.map_nil, hx] at h ⊢
  exact h
theorem builds_55 (w : World) (c0 c1 : Value) : (Instr.buildSlice 23 1 #[(0, .agg #[c0, c1])]).run P w = .ok (.slice (some ⟨w.heap.size, 0, none⟩) 1 1) (w.alloc (.cells #[c0, c1] 55)) := by kernel_rfl

abbrev posV : Value := .string ⟨#[80, 111, 115, 105, 116, 105, 118, 101]⟩

/-- The sections as data: one, of the first type, with its tokens. -/
def OutInv (B : Nat) (l : Value) (toks : Toks) (w : World) : Prop :=
  ∃ ob cap cs it, l = .slice (some ⟨ob, 0, none⟩) 1 cap ∧ B ≤ ob ∧ w.heap[ob]? = some (.cells cs 55 (0, 0)) ∧ cs[0]? = some posV ∧ cs[1]? = some it ∧ w.ownsRow B 58 3 it toks.length (outCells toks)

theorem tab_kept {w w' : World} (h : Lib.TabIs P w "strings.asciiSpace" .u8 Lib.asciiSpaceTab) (hb : 0 < w.heap.size → w'.heap[0]? = w.heap[0]?) : Lib.TabIs P w' "strings.asciiSpace" .u8 Lib.asciiSpaceTab := by
  unfold Lib.TabIs World.var? at h ⊢
  rw [gSpace] at h ⊢
  simp only [Option.bind_some] at h ⊢
  rcases Nat.eq_zero_or_pos w.heap.size with h0 | h0
  · rw [Array.getElem?_eq_none (by omega)] at h
    cases h
  · rw [hb h0]
    exact h

theorem owns_mono {w : World} {base base' e size n : Nat} {v : Value} {xs : List Value} (h : w.ownsRow base e size v n xs) (hb : base' ≤ base) : w.ownsRow base' e size v n xs := by
  refine ⟨h.1, ?_⟩
  rcases h.2 with h2 | ⟨g, cap, cur, h3, h4, h5⟩
  · exact .inl h2
  · exact .inr ⟨g, cap, cur, h3, Nat.le_trans hb h4, h5⟩

structure Closed (lb : Nat) (toks : Toks) (w w' : World) : Prop where
  os : w'.os = w.os
  tape : w'.tape = w.tape
  output : w'.output = w.output
  size : w.heap.size ≤ w'.heap.size
  block : ∀ j, j < w.heap.size → j ≠ lb → w'.heap[j]? = w.heap[j]?
  here : ∃ l, w'.heap[lb]? = some (.cells #[l] 23 (0, 0)) ∧ OutInv w.heap.size l toks w'

theorem pclos_calls (tb lb : Nat) (rs : List UInt8) (toks : Toks) (hR : Reads rs toks) (hn : toks.length ≤ 1000) (hne : toks ≠ []) (w : World) (ht : w.cell? ⟨tb, 0, none⟩ = some (.string (bs rs))) (hl : w.heap[lb]? = some (.cells #[.slice none 0 0] 23 (0, 0)))
    (htab : Lib.TabIs P w "strings.asciiSpace" .u8 Lib.asciiSpaceTab) :
    Calls Tryd.prog 14 #[.pointer (some ⟨tb, 0, none⟩), .pointer (some ⟨lb, 0, none⟩)] w fun e w' => e = .returned (.tuple #[]) ∧ Closed lb toks w w' := by
  have ltb := World.block_lt_of_cell? w _ ht
  have llb := lt_of_block hl
  refine calls_of_wp Tryd.func14 rfl ?_
  have hr : VRel 39 [(1, .pointer (some ⟨lb, 0, none⟩)), (0, .pointer (some ⟨tb, 0, none⟩))] { tmps := #[.pointer (some ⟨tb, 0, none⟩), .pointer (some ⟨lb, 0, none⟩)] ++ Array.replicate (Tryd.f14.ntmps - (#[.pointer (some ⟨tb, 0, none⟩), .pointer (some ⟨lb, 0, none⟩)] : Array Value).size) undef, defers := [] } := by
    refine ((VRel.of ?_ rfl).also ?_).also ?_
    · rw [Tryd.ntmps14]
      simp
    · simp
    · simp
  generalize ({ tmps := _, defers := [] } : Act) = a0 at hr ⊢
  refine wp_seq (wp_region_lit ?_)
  refine l_call 15 #[] _ hr rfl rfl rfl (fun a hr => x_callv (by simp) (enter15 _ _)) (nfp_calls w) fun a w1 hr g1 => ?_
  refine l_env _ _ hr rfl rfl rfl (fun a hr => alloc47 _ 2 _ _ _ w1) fun a hr => ?_
  have ga := World.grownBy_alloc w1 (.cells zcells tParser) none
  have bp0 := heap_alloc_new w1 (.cells zcells tParser)
  refine l_done _ hr rfl rfl (fun a hr => x_store (hr.arg rfl) (hr.arg rfl) (store_at size_47 (vs := zcells.toList) rfl rfl (by simp [zcells, Value.oneCell']) bp0 (by decide))) fun a hr => wpList_nil ?_
  generalize hw2 : World.setRow _ _ _ = w2
  have b2 : w2.heap[w1.heap.size]? = some (.cells zcells tParser (0, 0)) := by
    subst hw2
    exact heap_setRow_self bp0
  have g2 : w.grownBy w2 none := by
    subst hw2
    have := g1.size
    refine ⟨g1.os, g1.tape, g1.output, ?_, fun j hj _ => ?_⟩
    · have := ga.size
      simp only [World.setRow, Array.size_modify]
      omega
    · rw [heap_setRow_ne (by omega), ga.block j (by omega) (by simp)]
      exact g1.block j hj (by simp)
  clear hw2 ga bp0
  have g1s := g1.size
  have htab2 : Lib.TabIs P w2 "strings.asciiSpace" .u8 Lib.asciiSpaceTab := tab_kept htab fun h0 => g2.block 0 h0 (by simp)
  have g2s := g2.size
  have ht2 : w2.cell? ⟨tb, 0, none⟩ = some (.string (bs rs)) := (World.cell?_of_block (g2.block tb ltb (by simp))).trans ht
  refine wp_seq (wp_region_lit ?_)
  refine l_env (.string (bs rs)) w2 hr rfl rfl rfl (fun a hr => x_load plain_str (hr.arg rfl) ht2) fun a hr => ?_
  refine l_calls 16 #[.pointer (some ⟨w1.heap.size, 0, none⟩), .string (bs rs)] hr rfl rfl rfl (fun a hr => x_callv (by simp [hr.arg (x := .tmp 2) rfl, hr.arg (x := .tmp 9) rfl]) (enter16 _ _)) (parse_calls w1.heap.size rs toks hR w2 b2 htab2) ?_
  rintro e w3 ⟨secs, rfl, hP⟩
  refine ⟨_, rfl, fun a hr => ?_⟩
  have g3 : ∀ j, j < w.heap.size → w3.heap[j]? = w.heap[j]? := fun j hj => by
    rw [hP.block j (by omega) (by omega), g2.block j hj (by simp)]
  have e3 : w3.os = w.os ∧ w3.tape = w.tape ∧ w3.output = w.output := ⟨hP.os.trans g2.os, hP.tape.trans g2.tape, hP.output.trans g2.output⟩
  have z3 := hP.size
  rcases hP.secs with ⟨-, h⟩ | ⟨bsn, cap, cs, items, rfl, hB, hh, hc0, hc1, hown⟩
  · exact absurd h hne
  have hown' := hown.2
  rcases hown' with ⟨-, h⟩ | ⟨gi, icap, cur, rfl, hgi, -⟩
  · exact absurd (List.length_eq_zero_iff.1 h) hne
  have lgi := (hown.lt gi rfl).2
  have lbs := lt_of_block hh
  refine l_env (.int .i64 ((1 : Nat) : Int)) w3 hr rfl rfl rfl (fun a hr => x_len slice_secs (hr.arg rfl)) fun a hr => ?_
  refine l_env (.int .i64 ((0 : Nat) : Int)) w3 hr rfl rfl rfl (fun a hr => x_move (hr.arg rfl)) fun a hr => wpList_nil ?_
  refine wp_block (wp_loop_rounds 2 ?_)
  rw [rounds_succ]
  refine wp_seq (wp_region_lit ?_)
  refine l_env (.bool true) w3 hr rfl rfl rfl (fun a hr => x_bin (hr.arg rfl) (hr.arg rfl) (run_lss _ _ _ _ _)) fun a hr => wpList_nil ?_
  refine wp_seq (wp_cond (t := true) (hr.arg rfl) (wp_skip ?_))
  refine wp_seq (wp_block (wp_seq (wp_region_lit ?_)))
  -- the section
  refine l_env (.pointer (some ⟨bsn, 0 + 0 * 2, none⟩)) w3 hr rfl rfl rfl (fun a hr => x_index slice_secs (hr.arg rfl) (hr.arg rfl) (by decide)) fun a hr => ?_
  have hl2 : (Instr.loadAt tSec (.pointer (some ⟨bsn, 0 + 0 * 2, none⟩))).run P w3 = .ok (.agg #[posV, .slice (some ⟨gi, 0, none⟩) toks.length icap]) w3 := by
    refine aggB_load (ad := ⟨bsn, 0, none⟩) agg_52 (cs := [posV, .slice (some ⟨gi, 0, none⟩) toks.length icap]) rfl (fun j z hz => ?_)
    match j, hz with
    | 0, hz => simp at hz; subst hz; simpa [Addr.add] using cell_of_block hh hc0
    | 1, hz => simp at hz; subst hz; simpa [Addr.add] using cell_of_block hh hc1
    | n + 2, hz => simp at hz
  refine l_env _ w3 hr rfl rfl rfl (fun a hr => x_loadR (hr.arg rfl) hl2) fun a hr => ?_
  refine l_env _ _ hr rfl rfl rfl (fun a hr => alloc52 _ 4 _ _ _ w3) fun a hr => ?_
  have ga := World.grownBy_alloc w3 (.cells #[.string ⟨#[]⟩, .slice none 0 0] tSec) none
  have b40 := heap_alloc_new w3 (.cells #[.string ⟨#[]⟩, .slice none 0 0] tSec)
  refine l_done _ hr rfl rfl (fun a hr => x_store (hr.arg rfl) (hr.arg rfl) (store_at size_52 (vs := [posV, .slice (some ⟨gi, 0, none⟩) toks.length icap]) rfl rfl (by simp [Value.oneCell']) b40 (by decide))) fun a hr => wpList_nil ?_
  generalize hw4 : World.setRow _ _ _ = w4
  have b4 : w4.heap[w3.heap.size]? = some (.cells #[posV, .slice (some ⟨gi, 0, none⟩) toks.length icap] tSec (0, 0)) := by
    subst hw4
    exact heap_setRow_self b40
  have g4 : w3.grownBy w4 none := by
    subst hw4
    refine ⟨rfl, rfl, rfl, ?_, fun j hj _ => ?_⟩
    · have := ga.size
      simp only [World.setRow, Array.size_modify]
      omega
    · rw [heap_setRow_ne (by omega)]
      exact ga.block j hj (by simp)
  clear hw4 ga b40
  have g4s := g4.size
  -- the section as data
  refine wp_seq (wp_region_lit ?_)
  refine l_env (.pointer (some ⟨w3.heap.size, 0 + 0, none⟩)) w4 hr rfl rfl rfl (fun a hr => x_field f52_0 (hr.arg rfl)) fun a hr => ?_
  refine l_env posV w4 hr rfl rfl rfl (fun a hr => x_load plain_str (hr.arg rfl) (cell_of_block b4 rfl)) fun a hr => ?_
  refine l_env (.agg #[posV, .slice none 0 0]) w4 hr rfl rfl rfl (fun a hr => build_55 w4 _ _ _ _ _ _ (hr.arg rfl)) fun a hr => ?_
  refine l_env _ _ hr rfl rfl rfl (fun a hr => alloc55 _ 5 _ _ _ w4) fun a hr => ?_
  have ga := World.grownBy_alloc w4 (.cells #[.string ⟨#[]⟩, .slice none 0 0] 55) none
  have b50 := heap_alloc_new w4 (.cells #[.string ⟨#[]⟩, .slice none 0 0] 55)
  refine l_done _ hr rfl rfl (fun a hr => x_store (hr.arg rfl) (hr.arg rfl) (store_at size_55 (vs := [posV, .slice none 0 0]) rfl rfl (by simp [Value.oneCell']) b50 (by decide))) fun a hr => wpList_nil ?_
  generalize hw5 : World.setRow _ _ _ = w5
  have b5 : w5.heap[w4.heap.size]? = some (.cells #[posV, .slice none 0 0] 55 (0, 0)) := by
    subst hw5
    exact heap_setRow_self b50
  have g5 : w4.grownBy w5 none := by
    subst hw5
    refine ⟨rfl, rfl, rfl, ?_, fun j hj _ => ?_⟩
    · have := ga.size
      simp only [World.setRow, Array.size_modify]
      omega
    · rw [heap_setRow_ne (by omega)]
      exact ga.block j hj (by simp)
  clear hw5 ga b50
  have g5s := g5.size
  have b45 := (g5.block _ (lt_of_block b4) (by simp)).trans b4
  -- its tokens
  refine wp_seq (wp_seq (wp_region_lit ?_))
  refine l_env (.pointer (some ⟨w3.heap.size, 0 + 1, none⟩)) w5 hr rfl rfl rfl (fun a hr => x_field fC1 (hr.arg rfl)) fun a hr => ?_
  refine l_env (.slice (some ⟨gi, 0, none⟩) toks.length icap) w5 hr rfl rfl rfl (fun a hr => x_load plain_items (hr.arg rfl) (cell_of_block b45 rfl)) fun a hr => ?_
  refine l_env (.int .i64 (toks.length : Int)) w5 hr rfl rfl rfl (fun a hr => x_len slice_items (hr.arg rfl)) fun a hr => ?_
  refine l_env (.int .i64 ((0 : Nat) : Int)) w5 hr rfl rfl rfl (fun a hr => x_move (hr.arg rfl)) fun a hr => wpList_nil ?_
  have hrow : w5.ownsRow (bsn + 1) tTok 3 (.slice (some ⟨gi, 0, none⟩) toks.length icap) toks.length (tokCells toks) := (hown.kept g4 (Classical.em _)).kept g5 (Classical.em _)
  have hX0 : XInv w4.heap.size posV toks w5 0 w5 := ⟨rfl, rfl, rfl, Nat.le_refl _, fun _ _ => rfl, ⟨.slice none 0 0, b5, World.ownsRow_nil _ _ _ _⟩⟩
  refine wp_block (wp_loop_rounds (toks.length + 1) (inner_round w4.heap.size lb posV toks w5 (bsn + 1) gi icap (by omega) hn hrow ?_ ?_ toks.length 0 (by omega) a w5 (hr.sub (by intro p hp; simp only [innerEnv, List.mem_cons, List.not_mem_nil, or_false] at hp; rcases hp with rfl | rfl | rfl | rfl | rfl | rfl | rfl <;> rfl)) hX0))
  · intro c a t v w h
    cases t <;> exact h
  clear hr a
  intro a w6 hr hX
  obtain ⟨it, b6, hown6⟩ := hX.here
  rw [List.take_length] at hown6
  have z6 := hX.size
  have k6 : ∀ j, j < w.heap.size → w6.heap[j]? = w.heap[j]? := fun j hj => by
    rw [hX.block j (by omega), g5.block j (by omega) (by simp), g4.block j (by omega) (by simp)]
    exact g3 j hj
  have e6 : w6.os = w.os ∧ w6.tape = w.tape ∧ w6.output = w.output :=
    ⟨hX.os.trans (g5.os.trans (g4.os.trans e3.1)), hX.tape.trans (g5.tape.trans (g4.tape.trans e3.2.1)), hX.output.trans (g5.output.trans (g4.output.trans e3.2.2))⟩
  have bl6 := (k6 lb llb).trans hl
  refine wp_region_lit ?_
  refine l_env (.slice none 0 0) w6 hr rfl rfl rfl (fun a hr => x_load plain_23 (hr.arg rfl) (cell_of_block bl6 rfl)) fun a hr => ?_
  refine l_env (.agg #[posV, it]) w6 hr rfl rfl rfl (fun a hr => x_loadR (hr.arg rfl) (load_block agg_55 (cs := [posV, it]) b6 rfl)) fun a hr => ?_
  refine l_env _ _ hr rfl rfl rfl (fun a hr => x_buildSlice (hr.arg rfl) (builds_55 w6 posV it)) fun a hr => ?_
  have ga := World.grownBy_alloc w6 (.cells #[posV, it] 55) none
  obtain ⟨i0, hi0, hz0, hz1, hz2⟩ := info_parts info_55
  have hit : it.oneCell' = true := by
    rcases hown6.2 with ⟨rfl, -⟩ | ⟨_, _, _, rfl, -⟩ <;> rfl
  obtain ⟨v', w8, hrun, hown8, hg8, -⟩ := run_append_own (P := P) (w6.alloc (.cells #[posV, it] 55)) w6.heap.size 23 23 55 i0 _ 2 40 under_23 hi0 hz0 hz1 hz2 rfl (by omega) (.slice none 0 0) 0 [] (World.ownsRow_nil _ _ _ _) ⟨w6.heap.size, 0, none⟩ 1 1 [posV, it] rfl
    (fun j u hu => by
      match j, hu with
      | 0, hu => simp at hu; subst hu; exact World.cell?_alloc_new w6 _ _ 0
      | 1, hu => simp at hu; subst hu; exact World.cell?_alloc_new w6 _ _ 1
      | m + 2, hu => simp at hu)
    (fun u hu => by
      simp only [List.mem_cons, List.not_mem_nil, or_false] at hu
      rcases hu with rfl | rfl
      · rfl
      · exact hit)
    (by simp only [maxLen]; omega) (by omega) ga.size
  refine l_env v' w8 hr rfl rfl rfl (fun a hr => x_append (hr.arg rfl) (hr.arg rfl) hrun) fun a hr => ?_
  have gas := ga.size
  have g8s := hg8.size
  have k8 : ∀ j, j < w6.heap.size → w8.heap[j]? = w6.heap[j]? := fun j hj => by
    rw [hg8.block j (by omega) (by simp [Value.ownBlock]), ga.block j hj (by simp)]
  have bl8 := (k8 lb (by omega)).trans bl6
  rcases hown8.2 with ⟨-, h⟩ | ⟨ob, ocap, cur, rfl, hob, hbo, -, -, -, htk⟩
  · cases h
  refine l_done _ hr rfl rfl (fun a hr => x_store (hr.arg rfl) (hr.arg rfl) (one_store size_23 rfl (cell_of_block bl8 rfl) (free_of_block bl8))) fun a hr => wpList_nil ?_
  generalize hw9 : World.setCell _ _ _ = w9
  have bl9 : w9.heap[lb]? = some (.cells #[.slice (some ⟨ob, 0, none⟩) 1 ocap] 23 (0, 0)) := by
    subst hw9
    exact block_setCell bl8
  have k9 : ∀ j, j ≠ lb → w9.heap[j]? = w8.heap[j]? := fun j hj => by
    subst hw9
    exact Below.heap_setCell _ _ _ _ hj
  have z9 : w9.heap.size = w8.heap.size := by
    subst hw9
    simp [World.setCell]
  have e9 : w9.os = w8.os ∧ w9.tape = w8.tape ∧ w9.output = w8.output := by
    subst hw9
    exact ⟨rfl, rfl, rfl⟩
  clear hw9
  refine wp_region_lit ?_
  refine l_env (.int .i64 ((0 + 1 : Nat) : Int)) _ hr rfl rfl rfl (fun a hr => x_bin (hr.arg rfl) (hr.arg rfl) (run_inc _ _ 0 (by omega) _)) fun a hr => ?_
  refine l_env (.int .i64 ((0 + 1 : Nat) : Int)) _ hr rfl rfl rfl (fun a hr => x_move (hr.arg rfl)) fun a hr => wpList_nil ?_
  -- the loop's end
  show Code.rounds P _ _ 1 a w9
  rw [rounds_succ]
  refine wp_seq (wp_region_lit ?_)
  refine l_env (.bool false) w9 hr rfl rfl rfl (fun a hr => x_bin (hr.arg rfl) (hr.arg rfl) (run_lss _ _ _ _ _)) fun a hr => wpList_nil ?_
  refine wp_seq (wp_cond (t := false) (hr.arg rfl) (wp_exit ?_))
  refine ⟨hr.defers, .tuple #[], results_none rfl _ _ _, rfl, ?_⟩
  have lob := lt_of_block hbo
  refine ⟨e9.1.trans (hg8.os.trans e6.1), e9.2.1.trans (hg8.tape.trans e6.2.1), e9.2.2.trans (hg8.output.trans e6.2.2), by omega, fun j hj hjl => ?_, _, bl9, ob, ocap, cur, it, rfl, by omega, (k9 ob (by omega)).trans hbo, ?_, ?_, ?_⟩
  · rw [k9 j hjl, k8 j (by omega)]
    exact k6 j hj
  · have := congrArg (fun l => l[0]?) htk
    simpa [List.getElem?_take] using this
  · have := congrArg (fun l => l[1]?) htk
    simpa [List.getElem?_take] using this
  · refine owns_of_block (w := w6) (owns_mono hown6 (by omega)) fun k hk => ?_
    have := hown6.lt k hk
    rw [k9 k (by omega), k8 k this.2]
end Go.Nfp
