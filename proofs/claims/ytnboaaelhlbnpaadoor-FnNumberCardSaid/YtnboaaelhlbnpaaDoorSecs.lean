/- The walk of laws.sections: the sections of the subject turned into the specification's, at one section. -/
import Derived.Test.YtnboaaelhlbnpaaDoorIParse
namespace Go.Nfp
open Go Go.Proofs Go.RowKit

theorem alloc_set (w : World) (zs cs : Array Value) (T : TypeId) : ((w.alloc (.cells zs T)).setRow w.heap.size cs).heap[w.heap.size]? = some (.cells cs T (0, 0)) ∧ w.grownBy ((w.alloc (.cells zs T)).setRow w.heap.size cs) none := by
  have ga := World.grownBy_alloc w (.cells zs T) none
  have b := heap_alloc_new w (.cells zs T)
  refine ⟨heap_setRow_self b, rfl, rfl, rfl, ?_, fun j hj _ => ?_⟩
  · have := ga.size
    simp only [World.setRow, Array.size_modify]
    exact this
  · rw [heap_setRow_ne (by omega)]
    exact ga.block j hj (by simp)

/-- The cells of the specification's tokens. -/
def specCells (toks : Toks) : List Value := toks.flatMap fun p => [.string (bs p.2), .string (bs p.1)]

theorem outCells_at : ∀ {toks : Toks} {k : Nat} {p : List UInt8 × List UInt8}, toks[k]? = some p → (outCells toks)[k * 3]? = some (.string (bs p.2)) ∧ (outCells toks)[k * 3 + 1]? = some (.string (bs p.1)) ∧ (outCells toks)[k * 3 + 2]? = some (.slice none 0 0)
  | [], k, p, h => by simp at h
  | q :: l, 0, p, h => by
    simp only [List.getElem?_cons_zero, Option.some.injEq] at h
    subst h
    exact ⟨rfl, rfl, rfl⟩
  | q :: l, k + 1, p, h => by
    simp only [List.getElem?_cons_succ] at h
    obtain ⟨h1, h2, h3⟩ := outCells_at h
    have e : ∀ i, (outCells (q :: l))[(k + 1) * 3 + i]? = (outCells l)[k * 3 + i]? := fun i => by
      have : (k + 1) * 3 + i = (k * 3 + i) + 3 := by omega
      rw [this]
      rfl
    exact ⟨(e 0).trans h1, (e 1).trans h2, (e 2).trans h3⟩

theorem specCells_succ {toks : Toks} {k : Nat} {p : List UInt8 × List UInt8} (h : toks[k]? = some p) : specCells (toks.take (k + 1)) = specCells (toks.take k) ++ [.string (bs p.2), .string (bs p.1)] := by
  rw [List.take_add_one, h]
  simp [specCells]

noncomputable def sInner : Code := (((Tryd.f9.body.bind loopBody).bind loopBody)).getD .skip

theorem f33_1 : fieldB 33 1 = some 1 := by kernel_rfl
theorem f58_0 : fieldB 58 0 = some 0 := by kernel_rfl
theorem f58_1 : fieldB 58 1 = some 1 := by kernel_rfl
theorem plain_30 : plainB 30 = true := by kernel_rfl
theorem size_30 : sizeB 30 = some 1 := by kernel_rfl
theorem size_58 : sizeB 58 = some 3 := by kernel_rfl
theorem size_33 : sizeB 33 = some 2 := by kernel_rfl
theorem agg_33 : aggB 33 = some 2 := by kernel_rfl
theorem agg_62 : aggB 62 = some 2 := by kernel_rfl
theorem slice_53 : sliceB 53 = some 3 := by kernel_rfl
theorem slice_23 : sliceB 23 = some 2 := by kernel_rfl
theorem slice_30 : sliceB 30 = some 2 := by kernel_rfl
theorem slice_28 : sliceB 28 = some 2 := by kernel_rfl
theorem under_30 : P.underlying 30 = some (.slice 62) := by kernel_rfl
theorem under_28 : P.underlying 28 = some (.slice 33) := by kernel_rfl
theorem info_62 : (P.info? 62).map (fun i => (i.zero, i.size, i.bytes)) = some (some (.agg #[.string ⟨#[]⟩, .string ⟨#[]⟩]), 2, 32) := by kernel_rfl
theorem info_33 : (P.info? 33).map (fun i => (i.zero, i.size, i.bytes)) = some (some (.agg #[.string ⟨#[]⟩, .slice none 0 0]), 2, 40) := by kernel_rfl
theorem build_62 (w : World) (b c : ByteArray) : (Instr.build 62 #[(0, .string b), (1, .string c)]).run P w = .ok (.agg #[.string b, .string c]) w := by kernel_rfl
theorem build_33 (w : World) (b : ByteArray) : (Instr.build 33 #[(0, .string b)]).run P w = .ok (.agg #[.string b, .slice none 0 0]) w := by kernel_rfl
theorem builds_62 (w : World) (c0 c1 : Value) : (Instr.buildSlice 30 1 #[(0, .agg #[c0, c1])]).run P w = .ok (.slice (some ⟨w.heap.size, 0, none⟩) 1 1) (w.alloc (.cells #[c0, c1] 62)) := by kernel_rfl
theorem builds_33 (w : World) (c0 c1 : Value) : (Instr.buildSlice 28 1 #[(0, .agg #[c0, c1])]).run P w = .ok (.slice (some ⟨w.heap.size, 0, none⟩) 1 1) (w.alloc (.cells #[c0, c1] 33)) := by kernel_rfl
theorem alloc58 (ρ : Operand → Value) (d : Nat) (ty : TypeId) (pos : String) (aft : Array Edge) (w : World) : (execOp ρ ⟨some d, .alloc 58, ty, pos, aft, none⟩).run P w = .ok (.value (.pointer (some ⟨w.heap.size, 0, none⟩))) (w.alloc (.cells #[.string ⟨#[]⟩, .string ⟨#[]⟩, .slice none 0 0] 58)) := by kernel_rfl
theorem alloc33 (ρ : Operand → Value) (d : Nat) (ty : TypeId) (pos : String) (aft : Array Edge) (w : World) : (execOp ρ ⟨some d, .alloc 33, ty, pos, aft, none⟩).run P w = .ok (.value (.pointer (some ⟨w.heap.size, 0, none⟩))) (w.alloc (.cells #[.string ⟨#[]⟩, .slice none 0 0] 33)) := by kernel_rfl

section
variable {a : Act} {v : Value} {W W' : World} {dst : Option Tmp} {ty : TypeId} {pos : String} {aft : Array Edge} {gd : Option (Nat × Bool)} {x y : Operand} {T i j : Nat} {u u' : Value}
theorem x_build1 (hx : a.eval x = u) (h : (Instr.build T #[(i, u)]).run P W = .ok v W') : (execOp a.eval ⟨dst, .build T #[(i, x)], ty, pos, aft, gd⟩).run P W = .ok (.value v) W' := by simp [execOp, hx, h]
theorem x_build2 (hx : a.eval x = u) (hy : a.eval y = u') (h : (Instr.build T #[(i, u), (j, u')]).run P W = .ok v W') : (execOp a.eval ⟨dst, .build T #[(i, x), (j, y)], ty, pos, aft, gd⟩).run P W = .ok (.value v) W' := by simp [execOp, hx, hy, h]
end

/-- The world behind k tokens. -/
structure YInv (yb : Nat) (c0 : Value) (toks : Toks) (wx : World) (k : Nat) (w : World) : Prop where
  os : w.os = wx.os
  tape : w.tape = wx.tape
  output : w.output = wx.output
  size : wx.heap.size ≤ w.heap.size
  block : ∀ j, j < yb → w.heap[j]? = wx.heap[j]?
  here : ∃ it, w.heap[yb]? = some (.cells #[c0, it] 33 (0, 0)) ∧ w.ownsRow (yb + 1) 62 2 it k (specCells (toks.take k))

def sEnv (yb : Nat) (l items : Value) (n k : Nat) : VEnv := [(21, .int .i64 (k : Int)), (20, .int .i64 (n : Int)), (19, items), (6, .pointer (some ⟨yb, 0, none⟩)), (11, .int .i64 ((0 : Nat) : Int)), (10, .int .i64 ((1 : Nat) : Int)), (9, l), (3, .slice none 0 0)]

theorem sinner_round (yb : Nat) (l c0 : Value) (toks : Toks) (wx : World) (base gi cap : Nat) (hgi : gi < yb) (hn : toks.length ≤ 1000) (hrow : wx.ownsRow base 58 3 (.slice (some ⟨gi, 0, none⟩) toks.length cap) toks.length (outCells toks)) {Q : Exit → Act → World → Prop}
    (hQ : ∀ a w, VRel 42 (sEnv yb l (.slice (some ⟨gi, 0, none⟩) toks.length cap) toks.length toks.length) a → YInv yb c0 toks wx toks.length w → Q (.exit 2) a w) :
    ∀ m k, k + m = toks.length → ∀ a w, VRel 42 (sEnv yb l (.slice (some ⟨gi, 0, none⟩) toks.length cap) toks.length k) a → YInv yb c0 toks wx k w → Code.rounds P sInner Q (m + 1) a w := by
  intro m
  induction m with
  | zero =>
    intro k hk a w hr hI
    have hkn : k = toks.length := by omega
    subst hkn
    have hcode : sInner = Code.seq (Code.region 7 _ false) (Code.seq (Code.cond (.tmp 22) .skip (.exit 2)) _) := rfl
    rw [rounds_succ, hcode]
    refine wp_seq (wp_region_lit ?_)
    refine l_env (.bool (decide ((toks.length : Int) < (toks.length : Int)))) w hr rfl rfl rfl (fun a hr => x_bin (hr.arg rfl) (hr.arg rfl) (run_lss _ _ _ _ _)) fun a hr => wpList_nil ?_
    have hf : decide ((toks.length : Int) < (toks.length : Int)) = false := by simp
    rw [hf] at hr
    refine wp_seq (wp_cond (t := false) (hr.arg rfl) ?_)
    exact wp_exit (hQ a w (hr.sub (by intro p hp; simp only [sEnv, List.mem_cons, List.not_mem_nil, or_false] at hp; rcases hp with rfl | rfl | rfl | rfl | rfl | rfl | rfl | rfl <;> rfl)) hI)
  | succ m ih =>
    intro k hk a w hr hI
    have hlt : k < toks.length := by omega
    obtain ⟨p, hp⟩ : ∃ p, toks[k]? = some p := ⟨_, List.getElem?_eq_getElem hlt⟩
    obtain ⟨t0, t1, t2⟩ := outCells_at hp
    obtain ⟨it, hxb, hown⟩ := hI.here
    have hw := hI.size
    have g0 : w.cell? ⟨gi, 0 + k * 3, none⟩ = some (.string (bs p.2)) := (World.cell?_of_block (hI.block gi hgi)).trans (cellAt hrow t0)
    have g1 : w.cell? ⟨gi, 0 + k * 3 + 1, none⟩ = some (.string (bs p.1)) := by
      have := (World.cell?_of_block (hI.block gi hgi)).trans (cellAt hrow t1)
      simpa [Nat.add_assoc] using this
    have g2 : w.cell? ⟨gi, 0 + k * 3 + 2, none⟩ = some (.slice none 0 0) := by
      have := (World.cell?_of_block (hI.block gi hgi)).trans (cellAt hrow t2)
      simpa [Nat.add_assoc] using this
    have hl3 : (Instr.loadAt 58 (.pointer (some ⟨gi, 0 + k * 3, none⟩))).run P w = .ok (.agg #[.string (bs p.2), .string (bs p.1), .slice none 0 0]) w := by
      refine aggB_load (ad := ⟨gi, 0 + k * 3, none⟩) agg_58 (cs := [.string (bs p.2), .string (bs p.1), .slice none 0 0]) rfl (fun j z hz => ?_)
      match j, hz with
      | 0, hz => simp at hz; subst hz; simpa [Addr.add] using g0
      | 1, hz => simp at hz; subst hz; simpa [Addr.add] using g1
      | 2, hz => simp at hz; subst hz; simpa [Addr.add] using g2
      | n + 3, hz => simp at hz
    have hcode : sInner = Code.seq (Code.region 7 _ false) (Code.seq (Code.cond (.tmp 22) .skip (.exit 2)) (Code.seq (Code.block 3 (Code.seq (Code.region 8 _ false) (Code.region 9 _ false))) (Code.region 10 _ false))) := rfl
    rw [rounds_succ, hcode]
    refine wp_seq (wp_region_lit ?_)
    refine l_env (.bool (decide ((k : Int) < (toks.length : Int)))) w hr rfl rfl rfl (fun a hr => x_bin (hr.arg rfl) (hr.arg rfl) (run_lss _ _ _ _ _)) fun a hr => wpList_nil ?_
    have hf : decide ((k : Int) < (toks.length : Int)) = true := by simpa using hlt
    rw [hf] at hr
    refine wp_seq (wp_cond (t := true) (hr.arg rfl) (wp_skip ?_))
    refine wp_seq (wp_block (wp_seq (wp_region_lit ?_)))
    refine l_env (.pointer (some ⟨gi, 0 + k * 3, none⟩)) w hr rfl rfl rfl (fun a hr => x_index slice_53 (hr.arg rfl) (hr.arg rfl) hlt) fun a hr => ?_
    refine l_env _ w hr rfl rfl rfl (fun a hr => x_loadR (hr.arg rfl) hl3) fun a hr => ?_
    refine l_env _ _ hr rfl rfl rfl (fun a hr => alloc58 _ 8 _ _ _ w) fun a hr => ?_
    refine l_done _ hr rfl rfl (fun a hr => x_store (hr.arg rfl) (hr.arg rfl) (store_at size_58 (vs := [.string (bs p.2), .string (bs p.1), .slice none 0 0]) rfl rfl (by simp [Value.oneCell']) (heap_alloc_new w _) (by decide))) fun a hr => wpList_nil ?_
    obtain ⟨bt, gw⟩ := alloc_set w #[.string ⟨#[]⟩, .string ⟨#[]⟩, .slice none 0 0] #[.string (bs p.2), .string (bs p.1), .slice none 0 0] 58
    generalize hw1 : World.setRow _ _ _ = w1
    have hw1' : (w.alloc (.cells #[.string ⟨#[]⟩, .string ⟨#[]⟩, .slice none 0 0] 58)).setRow w.heap.size #[.string (bs p.2), .string (bs p.1), .slice none 0 0] = w1 := hw1
    rw [hw1'] at bt gw
    clear hw1 hw1'
    have gws := gw.size
    have lxb := lt_of_block hxb
    have b1 := (gw.block yb lxb (by simp)).trans hxb
    refine wp_region_lit ?_
    refine l_env (.pointer (some ⟨yb, 0 + 1, none⟩)) w1 hr rfl rfl rfl (fun a hr => x_field f33_1 (hr.arg rfl)) (fun a hr => ?_)
    refine l_env it w1 hr rfl rfl rfl (fun a hr => x_load plain_30 (hr.arg rfl) (cell_of_block b1 rfl)) (fun a hr => ?_)
    refine l_env (.pointer (some ⟨w.heap.size, 0 + 0, none⟩)) w1 hr rfl rfl rfl (fun a hr => x_field f58_0 (hr.arg rfl)) (fun a hr => ?_)
    refine l_env (.string (bs p.2)) w1 hr rfl rfl rfl (fun a hr => x_load plain_str (hr.arg rfl) (cell_of_block bt rfl)) (fun a hr => ?_)
    refine l_env (.pointer (some ⟨w.heap.size, 0 + 1, none⟩)) w1 hr rfl rfl rfl (fun a hr => x_field f58_1 (hr.arg rfl)) (fun a hr => ?_)
    refine l_env (.string (bs p.1)) w1 hr rfl rfl rfl (fun a hr => x_load plain_str (hr.arg rfl) (cell_of_block bt rfl)) (fun a hr => ?_)
    refine l_env _ w1 hr rfl rfl rfl (fun a hr => x_build2 (hr.arg rfl) (hr.arg rfl) (build_62 w1 _ _)) (fun a hr => ?_)
    have ga4 := World.grownBy_alloc w1 (.cells #[.string (bs p.2), .string (bs p.1)] 62) none
    refine l_env _ _ hr rfl rfl rfl (fun a hr => x_buildSlice (hr.arg rfl) (builds_62 w1 _ _)) (fun a hr => ?_)
    have g4w : w.grownBy (w1.alloc (.cells #[.string (bs p.2), .string (bs p.1)] 62)) none := by
      have := ga4.size
      exact ⟨gw.os, gw.tape, gw.output, by omega, fun j hj hne => by rw [ga4.block j (by omega) hne, gw.block j hj hne]⟩
    have hown4 : (w1.alloc (.cells #[.string (bs p.2), .string (bs p.1)] 62)).ownsRow (yb + 1) 62 2 it k (specCells (toks.take k)) := hown.kept g4w (by cases it.ownBlock <;> simp)
    have hlt4 := hown.lt
    obtain ⟨i0, hi0, hz0, hz1, hz2⟩ := info_parts info_62
    have g4s := g4w.size
    obtain ⟨v', w5, hrun, hown5, hg5, -⟩ := run_append_own (P := P) (w1.alloc (.cells #[.string (bs p.2), .string (bs p.1)] 62)) (yb + 1) 30 30 62 i0 _ 2 32 under_30 hi0 hz0 hz1 hz2 rfl (by omega) it k _ hown4 ⟨w1.heap.size, 0, none⟩ 1 1 [.string (bs p.2), .string (bs p.1)] rfl
      (fun j u hu => by
        match j, hu with
        | 0, hu => simp at hu; subst hu; exact World.cell?_alloc_new w1 _ _ 0
        | 1, hu => simp at hu; subst hu; exact World.cell?_alloc_new w1 _ _ 1
        | m + 2, hu => simp at hu)
      (fun u hu => by
        simp only [List.mem_cons, List.not_mem_nil, or_false] at hu
        rcases hu with rfl | rfl <;> rfl)
      (by simp only [maxLen]; omega) (by omega) (by omega)
    have nx : some yb ≠ it.ownBlock := fun e => by have := (hlt4 _ e.symm).1; omega
    refine l_env v' w5 hr rfl rfl rfl (fun a hr => x_append (hr.arg rfl) (hr.arg rfl) hrun) (fun a hr => ?_)
    refine l_env (.pointer (some ⟨yb, 0 + 1, none⟩)) w5 hr rfl rfl rfl (fun a hr => x_field f33_1 (hr.arg rfl)) (fun a hr => ?_)
    have hv1 : v'.oneCell' = true := by
      rcases hown5.2 with ⟨rfl, -⟩ | ⟨_, _, _, rfl, -⟩ <;> rfl
    have b5 : w5.heap[yb]? = some (.cells #[c0, it] 33 (0, 0)) := by
      rw [hg5.block yb (by omega) nx, g4w.block yb lxb (by simp)]
      exact hxb
    refine l_done (w5.setCell ⟨yb, 0 + 1, none⟩ v') hr rfl rfl (fun a hr => x_store (hr.arg rfl) (hr.arg rfl) (one_store size_30 hv1 (cell_of_block b5 rfl) (free_of_block b5))) (fun a hr => wpList_nil ?_)
    have hI6 : YInv yb c0 toks wx (k + 1) (w5.setCell ⟨yb, 0 + 1, none⟩ v') := by
      refine ⟨hg5.os.trans (g4w.os.trans hI.os), hg5.tape.trans (g4w.tape.trans hI.tape), hg5.output.trans (g4w.output.trans hI.output), ?_, fun j hj => ?_, v', ?_, ?_⟩
      · have := hg5.size
        simp only [World.setCell, Array.size_modify]
        omega
      · rw [Below.heap_setCell _ _ _ _ (by show j ≠ yb; omega), hg5.block j (by omega) (fun e => by have := (hlt4 _ e.symm).1; omega), g4w.block j (by omega) (by simp)]
        exact hI.block j hj
      · exact block_setCell b5
      · rw [specCells_succ hp]
        refine ownsRow_setCell_other hown5 (fun e => ?_) _
        have h9 : yb + 1 ≤ yb := (hown5.lt _ e).1
        omega
    refine wp_region_lit ?_
    refine l_env (.int .i64 ((k + 1 : Nat) : Int)) _ hr rfl rfl rfl (fun a hr => x_bin (hr.arg rfl) (hr.arg rfl) (run_inc _ _ k (by omega) _)) fun a hr => ?_
    refine l_env (.int .i64 ((k + 1 : Nat) : Int)) _ hr rfl rfl rfl (fun a hr => x_move (hr.arg rfl)) fun a hr => wpList_nil ?_
    exact ih (k + 1) (by omega) a _ (hr.sub (by intro p hp; simp only [sEnv, List.mem_cons, List.not_mem_nil, or_false] at hp; rcases hp with rfl | rfl | rfl | rfl | rfl | rfl | rfl | rfl <;> rfl)) hI6

/-- The specification's sections: one, of the first type, with its tokens. -/
def SpecInv (B : Nat) (l : Value) (toks : Toks) (w : World) : Prop :=
  ∃ ob cap cs it, l = .slice (some ⟨ob, 0, none⟩) 1 cap ∧ B ≤ ob ∧ w.heap[ob]? = some (.cells cs 33 (0, 0)) ∧ cs[0]? = some posV ∧ cs[1]? = some it ∧ w.ownsRow B 62 2 it toks.length (specCells toks)

theorem sections_calls (l : Value) (toks : Toks) (B : Nat) (hn : toks.length ≤ 1000) (hne : toks ≠ []) (w : World) (hO : OutInv B l toks w) :
    Calls Tryd.prog 9 #[l] w fun e w' => ∃ l', e = .returned l' ∧ w.grownBy w' none ∧ SpecInv w.heap.size l' toks w' := by
  obtain ⟨ob, cap, cs, it, rfl, hob, hh, hc0, hc1, hown⟩ := hO
  have lob := lt_of_block hh
  rcases hown.2 with ⟨-, h⟩ | ⟨gi, icap, cur, rfl, hgi, -⟩
  · exact absurd (List.length_eq_zero_iff.1 h) hne
  have lgi := (hown.lt gi rfl).2
  refine calls_of_wp Tryd.func9 rfl ?_
  have hr : VRel 42 [(0, .slice (some ⟨ob, 0, none⟩) 1 cap)] { tmps := #[.slice (some ⟨ob, 0, none⟩) 1 cap] ++ Array.replicate (Tryd.f9.ntmps - (#[.slice (some ⟨ob, 0, none⟩) 1 cap] : Array Value).size) undef, defers := [] } := by
    refine (VRel.of ?_ rfl).also ?_
    · rw [Tryd.ntmps9]
      simp
    · simp
  generalize ({ tmps := _, defers := [] } : Act) = a0 at hr ⊢
  refine wp_seq (wp_region_lit (l_env (.slice none 0 0) w hr rfl rfl rfl (fun a hr => x_assign (hr.arg rfl)) fun a hr => wpList_nil ?_))
  refine wp_seq (wp_region_lit (l_env (.slice none 0 0) w hr rfl rfl rfl (fun a hr => x_assign (hr.arg rfl)) fun a hr => wpList_nil ?_))
  refine wp_seq (wp_seq (wp_region_lit ?_))
  refine l_env (.slice (some ⟨ob, 0, none⟩) 1 cap) w hr rfl rfl rfl (fun a hr => x_move (hr.arg rfl)) fun a hr => ?_
  refine l_env (.int .i64 ((1 : Nat) : Int)) w hr rfl rfl rfl (fun a hr => x_len slice_23 (hr.arg rfl)) fun a hr => ?_
  refine l_env (.int .i64 ((0 : Nat) : Int)) w hr rfl rfl rfl (fun a hr => x_move (hr.arg rfl)) fun a hr => wpList_nil ?_
  refine wp_block (wp_loop_rounds 2 ?_)
  rw [rounds_succ]
  refine wp_seq (wp_region_lit ?_)
  refine l_env (.bool true) w hr rfl rfl rfl (fun a hr => x_bin (hr.arg rfl) (hr.arg rfl) (run_lss _ _ _ _ _)) fun a hr => wpList_nil ?_
  refine wp_seq (wp_cond (t := true) (hr.arg rfl) (wp_skip ?_))
  refine wp_seq (wp_block (wp_seq (wp_region_lit ?_)))
  refine l_env (.pointer (some ⟨ob, 0 + 0 * 2, none⟩)) w hr rfl rfl rfl (fun a hr => x_index slice_23 (hr.arg rfl) (hr.arg rfl) (by decide)) fun a hr => ?_
  have hl2 : (Instr.loadAt 55 (.pointer (some ⟨ob, 0 + 0 * 2, none⟩))).run P w = .ok (.agg #[posV, .slice (some ⟨gi, 0, none⟩) toks.length icap]) w := by
    refine aggB_load (ad := ⟨ob, 0, none⟩) agg_55 (cs := [posV, .slice (some ⟨gi, 0, none⟩) toks.length icap]) rfl (fun j z hz => ?_)
    match j, hz with
    | 0, hz => simp at hz; subst hz; simpa [Addr.add] using cell_of_block hh hc0
    | 1, hz => simp at hz; subst hz; simpa [Addr.add] using cell_of_block hh hc1
    | n + 2, hz => simp at hz
  refine l_env _ w hr rfl rfl rfl (fun a hr => x_loadR (hr.arg rfl) hl2) fun a hr => ?_
  refine l_env _ _ hr rfl rfl rfl (fun a hr => alloc55 _ 5 _ _ _ w) fun a hr => ?_
  refine l_done _ hr rfl rfl (fun a hr => x_store (hr.arg rfl) (hr.arg rfl) (store_at size_55 (vs := [posV, .slice (some ⟨gi, 0, none⟩) toks.length icap]) rfl rfl (by simp [Value.oneCell']) (heap_alloc_new w _) (by decide))) fun a hr => wpList_nil ?_
  obtain ⟨b4, g4⟩ := alloc_set w #[.string ⟨#[]⟩, .slice none 0 0] #[posV, .slice (some ⟨gi, 0, none⟩) toks.length icap] 55
  generalize hw4 : World.setRow _ _ _ = w4
  have hw4' : (w.alloc (.cells #[.string ⟨#[]⟩, .slice none 0 0] 55)).setRow w.heap.size #[posV, .slice (some ⟨gi, 0, none⟩) toks.length icap] = w4 := hw4
  rw [hw4'] at b4 g4
  clear hw4 hw4'
  have g4s := g4.size
  refine wp_seq (wp_region_lit ?_)
  refine l_env (.pointer (some ⟨w.heap.size, 0 + 0, none⟩)) w4 hr rfl rfl rfl (fun a hr => x_field f55_0 (hr.arg rfl)) fun a hr => ?_
  refine l_env posV w4 hr rfl rfl rfl (fun a hr => x_load plain_str (hr.arg rfl) (cell_of_block b4 rfl)) fun a hr => ?_
  refine l_env (.agg #[posV, .slice none 0 0]) w4 hr rfl rfl rfl (fun a hr => x_build1 (hr.arg rfl) (build_33 w4 _)) fun a hr => ?_
  refine l_env _ _ hr rfl rfl rfl (fun a hr => alloc33 _ 6 _ _ _ w4) fun a hr => ?_
  refine l_done _ hr rfl rfl (fun a hr => x_store (hr.arg rfl) (hr.arg rfl) (store_at size_33 (vs := [posV, .slice none 0 0]) rfl rfl (by simp [Value.oneCell']) (heap_alloc_new w4 _) (by decide))) fun a hr => wpList_nil ?_
  obtain ⟨b5, g5⟩ := alloc_set w4 #[.string ⟨#[]⟩, .slice none 0 0] #[posV, .slice none 0 0] 33
  generalize hw5 : World.setRow _ _ _ = w5
  have hw5' : (w4.alloc (.cells #[.string ⟨#[]⟩, .slice none 0 0] 33)).setRow w4.heap.size #[posV, .slice none 0 0] = w5 := hw5
  rw [hw5'] at b5 g5
  clear hw5 hw5'
  have g5s := g5.size
  have l4 := lt_of_block b4
  have b45 := (g5.block _ l4 (by simp)).trans b4
  refine wp_seq (wp_seq (wp_region_lit ?_))
  refine l_env (.pointer (some ⟨w.heap.size, 0 + 1, none⟩)) w5 hr rfl rfl rfl (fun a hr => x_field f55_1 (hr.arg rfl)) fun a hr => ?_
  refine l_env (.slice (some ⟨gi, 0, none⟩) toks.length icap) w5 hr rfl rfl rfl (fun a hr => x_load plain_53 (hr.arg rfl) (cell_of_block b45 rfl)) fun a hr => ?_
  refine l_env (.int .i64 (toks.length : Int)) w5 hr rfl rfl rfl (fun a hr => x_len slice_53 (hr.arg rfl)) fun a hr => ?_
  refine l_env (.int .i64 ((0 : Nat) : Int)) w5 hr rfl rfl rfl (fun a hr => x_move (hr.arg rfl)) fun a hr => wpList_nil ?_
  have hrow : w5.ownsRow B 58 3 (.slice (some ⟨gi, 0, none⟩) toks.length icap) toks.length (outCells toks) := (hown.kept g4 (Classical.em _)).kept g5 (Classical.em _)
  have hX0 : YInv w4.heap.size posV toks w5 0 w5 := ⟨rfl, rfl, rfl, Nat.le_refl _, fun _ _ => rfl, ⟨.slice none 0 0, b5, World.ownsRow_nil _ _ _ _⟩⟩
  refine wp_block (wp_loop_rounds (toks.length + 1) (sinner_round w4.heap.size (.slice (some ⟨ob, 0, none⟩) 1 cap) posV toks w5 B gi icap (by omega) hn hrow ?_ toks.length 0 (by omega) a w5 (hr.sub (by intro p hp; simp only [sEnv, List.mem_cons, List.not_mem_nil, or_false] at hp; rcases hp with rfl | rfl | rfl | rfl | rfl | rfl | rfl | rfl <;> rfl)) hX0))
  clear hr a
  intro a w6 hr hX
  obtain ⟨it, b6, hown6⟩ := hX.here
  rw [List.take_length] at hown6
  have z6 := hX.size
  have k6 : ∀ j, j < w.heap.size → w6.heap[j]? = w.heap[j]? := fun j hj => by
    rw [hX.block j (by omega), g5.block j (by omega) (by simp)]
    exact g4.block j (by omega) (by simp)
  have e6 : w6.os = w.os ∧ w6.tape = w.tape ∧ w6.output = w.output :=
    ⟨hX.os.trans (g5.os.trans g4.os), hX.tape.trans (g5.tape.trans g4.tape), hX.output.trans (g5.output.trans g4.output)⟩
  refine wp_region_lit ?_
  refine l_env (.slice none 0 0) w6 hr rfl rfl rfl (fun a hr => x_move (hr.arg rfl)) fun a hr => ?_
  refine l_env (.agg #[posV, it]) w6 hr rfl rfl rfl (fun a hr => x_loadR (hr.arg rfl) (load_block agg_33 (cs := [posV, it]) b6 rfl)) fun a hr => ?_
  refine l_env _ _ hr rfl rfl rfl (fun a hr => x_buildSlice (hr.arg rfl) (builds_33 w6 posV it)) fun a hr => ?_
  have ga := World.grownBy_alloc w6 (.cells #[posV, it] 33) none
  obtain ⟨i0, hi0, hz0, hz1, hz2⟩ := info_parts info_33
  have hit : it.oneCell' = true := by
    rcases hown6.2 with ⟨rfl, -⟩ | ⟨_, _, _, rfl, -⟩ <;> rfl
  obtain ⟨v', w8, hrun, hown8, hg8, -⟩ := run_append_own (P := P) (w6.alloc (.cells #[posV, it] 33)) w6.heap.size 28 28 33 i0 _ 2 40 under_28 hi0 hz0 hz1 hz2 rfl (by omega) (.slice none 0 0) 0 [] (World.ownsRow_nil _ _ _ _) ⟨w6.heap.size, 0, none⟩ 1 1 [posV, it] rfl
    (fun j u hu => by
      match j, hu with
      | 0, hu => simp at hu; subst hu; exact World.cell?_alloc_new w6 _ _ 0
      | 1, hu => simp at hu; subst hu; exact World.cell?_alloc_new w6 _ _ 1
      | m + 2, hu => simp at hu)
    (fun u hu => by
      simp only [List.mem_cons, List.not_mem_nil, or_false] at hu
      rcases hu with rfl | rfl
      · rfl
      · exact hit)
    (by simp only [maxLen]; omega) (by omega) ga.size
  refine l_env v' w8 hr rfl rfl rfl (fun a hr => x_append (hr.arg rfl) (hr.arg rfl) hrun) fun a hr => ?_
  refine l_env v' w8 hr rfl rfl rfl (fun a hr => x_assign (hr.arg rfl)) fun a hr => wpList_nil ?_
  have gas := ga.size
  have g8s := hg8.size
  have k8 : ∀ j, j < w6.heap.size → w8.heap[j]? = w6.heap[j]? := fun j hj => by
    rw [hg8.block j (by omega) (by simp [Value.ownBlock]), ga.block j hj (by simp)]
  rcases hown8.2 with ⟨-, h⟩ | ⟨ob2, ocap, cur2, rfl, hob2, hbo, -, -, -, htk⟩
  · cases h
  refine wp_region_lit ?_
  refine l_env (.int .i64 ((0 + 1 : Nat) : Int)) _ hr rfl rfl rfl (fun a hr => x_bin (hr.arg rfl) (hr.arg rfl) (run_inc _ _ 0 (by omega) _)) fun a hr => ?_
  refine l_env (.int .i64 ((0 + 1 : Nat) : Int)) _ hr rfl rfl rfl (fun a hr => x_move (hr.arg rfl)) fun a hr => wpList_nil ?_
  show Code.rounds P _ _ 1 a w8
  rw [rounds_succ]
  refine wp_seq (wp_region_lit ?_)
  refine l_env (.bool false) w8 hr rfl rfl rfl (fun a hr => x_bin (hr.arg rfl) (hr.arg rfl) (run_lss _ _ _ _ _)) fun a hr => wpList_nil ?_
  refine wp_seq (wp_cond (t := false) (hr.arg rfl) (wp_exit ?_))
  refine wp_seq (wp_region_lit ?_)
  refine l_env (.slice (some ⟨ob2, 0, none⟩) 1 ocap) w8 hr rfl rfl rfl (fun a hr => x_move (hr.arg rfl)) fun a hr => ?_
  refine l_env (.slice (some ⟨ob2, 0, none⟩) 1 ocap) w8 hr rfl rfl rfl (fun a hr => x_assign (hr.arg rfl)) fun a hr => wpList_nil (wp_ret ?_)
  refine ⟨hr.defers, _, results_tmp rfl _ _ _, .slice (some ⟨ob2, 0, none⟩) 1 ocap, ?_, ?_⟩
  · rw [Array.getD_eq_getD_getElem?, hr.spot 2 _ rfl]
    rfl
  refine ⟨⟨hg8.os.trans e6.1, hg8.tape.trans e6.2.1, hg8.output.trans e6.2.2, by omega, fun j hj _ => ?_⟩, ob2, ocap, cur2, it, rfl, by omega, hbo, ?_, ?_, ?_⟩
  · rw [k8 j (by omega)]
    exact k6 j hj
  · have := congrArg (fun l => l[0]?) htk
    simpa [List.getElem?_take] using this
  · have := congrArg (fun l => l[1]?) htk
    simpa [List.getElem?_take] using this
  · refine owns_of_block (w := w6) (owns_mono hown6 (by omega)) fun k hk => ?_
    have := hown6.lt k hk
    rw [k8 k this.2]
end Go.Nfp
