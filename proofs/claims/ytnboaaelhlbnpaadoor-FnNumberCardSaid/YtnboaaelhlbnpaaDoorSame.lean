/- The walk of spec.Same at two lists of one section each that hold the same tokens. -/
import Derived.Test.YtnboaaelhlbnpaaDoorNeq
import Derived.BigQuiet
namespace Go.Nfp
open Go Go.Proofs Go.RowKit

section
variable {ops : Array Oper} {S : World → Prop} {Lq : Act → Prop} {a : Act} {o oj : Oper} {rest : List Oper} {w w' : World} {N t t' j : Nat} {env : VEnv} {Q : Exit → Act → World → Prop} {want : Bool}

theorem wanted_at (hr : VRel N env a) (hg : o.guard = some (j, want)) (hj : ops[j]? = some oj) (ht : oj.dst = some t) (hv : vfind env t = some (.bool want)) : Region.wanted o (yielded ops a.tmps) = true := by
  unfold Region.wanted
  rw [hg]
  simp only
  have : yielded ops a.tmps j = some want := by
    unfold yielded
    simp only [hj, Option.bind_some, ht, hr.spot t _ hv]
  rw [this]
  cases want <;> rfl

theorem q_envg (v : Value) (hr : VRel N env a) (hg : o.guard = some (j, want)) (hj : ops[j]? = some oj) (hdj : oj.dst = some t') (hvj : vfind env t' = some (.bool want)) (hd : o.dst = some t) (ht : Nat.blt t N = true)
    (hrun : ∀ a W, VRel N env a → S W → (execOp a.eval o).run P W = .ok (.value v) W) (h : ∀ a', VRel N ((t, v) :: env) a' → wpQuiet P ops S Lq rest a') : wpQuiet P ops S Lq (o :: rest) a := by
  unfold wpQuiet
  rw [if_pos (wanted_at hr hg hj hdj hvj)]
  refine ⟨v, fun w hw => ?_, h _ (by rw [hd]; exact hr.put ht v)⟩
  unfold Oper.quietAt
  rw [hrun a w hr hw]
  exact ⟨rfl, rfl⟩

theorem l_envg (v : Value) (w' : World) (hr : VRel N env a) (hg : o.guard = some (j, want)) (hj : ops[j]? = some oj) (hdj : oj.dst = some t') (hvj : vfind env t' = some (.bool want)) (hd : o.dst = some t) (ht : Nat.blt t N = true)
    (hrun : ∀ a, VRel N env a → (execOp a.eval o).run P w = .ok (.value v) w') (h : ∀ a', VRel N ((t, v) :: env) a' → wpList P ops Q rest a' w') : wpList P ops Q (o :: rest) a w := by
  unfold wpList
  rw [if_pos (wanted_at hr hg hj hdj hvj)]
  refine .inl ?_
  unfold Oper.wp
  rw [hrun a hr, Oper.upon_value, hd]
  exact h _ (hr.put ht v)

theorem l_callsg (f : Nat) (args : Array Value) {R : Ending → World → Prop} (hr : VRel N env a) (hg : o.guard = some (j, want)) (hj : ops[j]? = some oj) (hdj : oj.dst = some t') (hvj : vfind env t' = some (.bool want)) (hd : o.dst = some t) (ht : Nat.blt t N = true)
    (hrun : ∀ a, VRel N env a → (execOp a.eval o).run P w = .ok (.enter f args) w)
    (hc : Calls P f args w R) (h : ∀ e w', R e w' → ∃ v, e = .returned v ∧ ∀ a', VRel N ((t, v) :: env) a' → wpList P ops Q rest a' w') : wpList P ops Q (o :: rest) a w := by
  unfold wpList
  rw [if_pos (wanted_at hr hg hj hdj hvj)]
  refine .inl ?_
  unfold Oper.wp
  rw [hrun a hr, Oper.upon_enter]
  refine hc.mono fun e w' hR => ?_
  obtain ⟨v, rfl, h2⟩ := h e w' hR
  simp only [hd]
  exact h2 _ (hr.put ht v)

theorem l_skipg (hr : VRel N env a) (hg : o.guard = some (j, want)) (hj : ops[j]? = some oj) (hdj : oj.dst = some t') (hvj : vfind env t' = some (.bool (!want))) (hd : o.dst = some t) (ht : Nat.blt t N = true)
    (h : ∀ a', VRel N ((t, undef) :: env) a' → wpList P ops Q rest a' w) : wpList P ops Q (o :: rest) a w := by
  have hw : Region.wanted o (yielded ops a.tmps) = false := by
    unfold Region.wanted
    rw [hg]
    simp only
    have : yielded ops a.tmps j = some (!want) := by
      unfold yielded
      simp only [hj, Option.bind_some, hdj, hr.spot t' _ hvj]
    rw [this]
    cases want <;> rfl
  refine wpList_skip hw ?_
  rw [hd]
  exact h _ (hr.put ht undef)
end

theorem x_pickT {a : Act} {W : World} {dst : Option Tmp} {ty : TypeId} {pos : String} {aft : Array Edge} {gd : Option (Nat × Bool)} {c x y : Operand} {v : Value} (hc : a.eval c = .bool true) (hx : a.eval x = v) :
    (execOp a.eval ⟨dst, .pick c x y, ty, pos, aft, gd⟩).run P W = .ok (.value v) W := by
  simp [execOp, hc, asBool, hx]
theorem x_pickF {a : Act} {W : World} {dst : Option Tmp} {ty : TypeId} {pos : String} {aft : Array Edge} {gd : Option (Nat × Bool)} {c x y : Operand} {v : Value} (hc : a.eval c = .bool false) (hy : a.eval y = v) :
    (execOp a.eval ⟨dst, .pick c x y, ty, pos, aft, gd⟩).run P W = .ok (.value v) W := by
  simp [execOp, hc, asBool, hy]

theorem run_neq3 (x y : Operand) (m : Int) (w : World) : (do eqGuard .neq 3 x y (.int .i64 m) (.int .i64 m); binOp .neq 3 (.int .i64 m) (.int .i64 m) : Sem Value).run P w = .ok (.bool false) w := by
  simp [eqGuard, binOp, Op.intCmp]
theorem run_neqs (x y : Operand) (b : ByteArray) (w : World) : (do eqGuard .neq 9 x y (.string b) (.string b); binOp .neq 9 (.string b) (.string b) : Sem Value).run P w = .ok (.bool false) w := by
  simp [eqGuard, binOp, Op.stringOp]

/-- A list of one section is read: the first type, and the tokens. -/
structure Sees1 (l : Value) (toks : Toks) (ob cap g icap : Nat) (w : World) : Prop where
  eq : l = .slice (some ⟨ob, 0, none⟩) 1 cap
  kind : w.cell? ⟨ob, 0 + 0 * 2 + 0, none⟩ = some posV
  items : w.cell? ⟨ob, 0 + 0 * 2 + 1, none⟩ = some (.slice (some ⟨g, 0, none⟩) toks.length icap)
  cells : ∀ j u, (specCells toks)[j]? = some u → w.cell? ⟨g, 0 + j, none⟩ = some u

theorem Sees1.grown {l : Value} {toks : Toks} {ob cap g icap : Nat} {w w' : World} (h : Sees1 l toks ob cap g icap w) (hg : w.grownBy w' none) : Sees1 l toks ob cap g icap w' :=
  ⟨h.eq, hg.cell h.kind (by simp), hg.cell h.items (by simp), fun j u hu => hg.cell (h.cells j u hu) (by simp)⟩

theorem SpecInv.sees {B : Nat} {l : Value} {toks : Toks} {w : World} (hne : toks ≠ []) (h : SpecInv B l toks w) : ∃ ob cap g icap, Sees1 l toks ob cap g icap w := by
  obtain ⟨ob, cap, cs, it, rfl, -, hh, hc0, hc1, hown⟩ := h
  rcases hown.2 with ⟨-, h⟩ | ⟨g, icap, cur, rfl, -⟩
  · exact absurd (List.length_eq_zero_iff.1 h) hne
  · exact ⟨ob, cap, g, icap, rfl, cell_of_block hh hc0, cell_of_block hh hc1, fun j u hu => cellAt hown hu⟩

theorem specCells_at : ∀ {toks : Toks} {k : Nat} {p : List UInt8 × List UInt8}, toks[k]? = some p → (specCells toks)[k * 2]? = some (.string (bs p.2)) ∧ (specCells toks)[k * 2 + 1]? = some (.string (bs p.1))
  | [], k, p, h => by simp at h
  | q :: l, 0, p, h => by
    simp only [List.getElem?_cons_zero, Option.some.injEq] at h
    subst h
    exact ⟨rfl, rfl⟩
  | q :: l, k + 1, p, h => by
    simp only [List.getElem?_cons_succ] at h
    obtain ⟨h1, h2⟩ := specCells_at h
    have e : ∀ i, (specCells (q :: l))[(k + 1) * 2 + i]? = (specCells l)[k * 2 + i]? := fun i => by
      have : (k + 1) * 2 + i = (k * 2 + i) + 2 := by omega
      rw [this]
      rfl
    exact ⟨(e 0).trans h1, (e 1).trans h2⟩

theorem Sees1.load {l : Value} {toks : Toks} {ob cap g icap : Nat} {w : World} (h : Sees1 l toks ob cap g icap w) {k : Nat} {p : List UInt8 × List UInt8} (hp : toks[k]? = some p) :
    (Instr.loadAt 62 (.pointer (some ⟨g, 0 + k * 2, none⟩))).run P w = .ok (.agg #[.string (bs p.2), .string (bs p.1)]) w := by
  obtain ⟨h1, h2⟩ := specCells_at hp
  have c1 := h.cells _ _ h1
  have c2 := h.cells _ _ h2
  refine aggB_load (ad := ⟨g, 0 + k * 2, none⟩) agg_62 (cs := [.string (bs p.2), .string (bs p.1)]) rfl (fun j z hz => ?_)
  match j, hz with
  | 0, hz => simp at hz; subst hz; simpa [Addr.add] using c1
  | 1, hz => simp at hz; subst hz; simpa [Addr.add, Nat.add_assoc] using c2
  | n + 2, hz => simp at hz

theorem f33_0 : fieldB 33 0 = some 0 := by kernel_rfl
theorem size_62 : sizeB 62 = some 2 := by kernel_rfl
theorem alloc62 (ρ : Operand → Value) (d : Nat) (ty : TypeId) (pos : String) (aft : Array Edge) (w : World) : (execOp ρ ⟨some d, .alloc 62, ty, pos, aft, none⟩).run P w = .ok (.value (.pointer (some ⟨w.heap.size, 0, none⟩))) (w.alloc (.cells #[.string ⟨#[]⟩, .string ⟨#[]⟩] 62)) := by kernel_rfl

noncomputable def eInner : Code := (((Tryd.f8.body.bind loopBody).bind loopBody)).getD .skip

def eEnv (l r items : Value) (n k : Nat) : VEnv := [(51, .int .i64 (k : Int)), (50, .int .i64 (n : Int)), (49, items), (5, .int .i64 ((0 : Nat) : Int)), (16, .int .i64 ((0 : Nat) : Int)), (15, .int .i64 ((1 : Nat) : Int)), (1, r), (0, l)]

theorem same_round (l r : Value) (toks : Toks) (ob cap g icap ob2 cap2 g2 icap2 : Nat) (hn : toks.length ≤ 1000) (wx : World) (hl : Sees1 l toks ob cap g icap wx) (hr2 : Sees1 r toks ob2 cap2 g2 icap2 wx) {Q : Exit → Act → World → Prop}
    (hQ : ∀ a w, VRel 69 (eEnv l r (.slice (some ⟨g, 0, none⟩) toks.length icap) toks.length toks.length) a → wx.grownBy w none → Q (.exit 2) a w) :
    ∀ m k, k + m = toks.length → ∀ a w, VRel 69 (eEnv l r (.slice (some ⟨g, 0, none⟩) toks.length icap) toks.length k) a → wx.grownBy w none → Code.rounds P eInner Q (m + 1) a w := by
  intro m
  induction m with
  | zero =>
    intro k hk a w hr hI
    have hkn : k = toks.length := by omega
    subst hkn
    have hcode : eInner = Code.seq (Code.region 9 _ false) (Code.seq (Code.cond (.tmp 52) .skip (.exit 2)) _) := rfl
    rw [rounds_succ, hcode]
    refine wp_seq (wp_region_lit ?_)
    refine l_env (.bool (decide ((toks.length : Int) < (toks.length : Int)))) w hr rfl rfl rfl (fun a hr => x_bin (hr.arg rfl) (hr.arg rfl) (run_lss _ _ _ _ _)) fun a hr => wpList_nil ?_
    have hf : decide ((toks.length : Int) < (toks.length : Int)) = false := by simp
    rw [hf] at hr
    refine wp_seq (wp_cond (t := false) (hr.arg rfl) ?_)
    exact wp_exit (hQ a w (hr.sub (by intro p hp; simp only [eEnv, List.mem_cons, List.not_mem_nil, or_false] at hp; rcases hp with rfl | rfl | rfl | rfl | rfl | rfl | rfl | rfl <;> rfl)) hI)
  | succ m ih =>
    intro k hk a w hr hI
    have hlt : k < toks.length := by omega
    obtain ⟨p, hp⟩ : ∃ p, toks[k]? = some p := ⟨_, List.getElem?_eq_getElem hlt⟩
    have hl' := hl.grown hI
    have hcode : eInner = Code.seq (Code.region 9 _ false) (Code.seq (Code.cond (.tmp 52) .skip (.exit 2)) (Code.seq (Code.block 3 (Code.seq (Code.region 10 _ false) (Code.seq (Code.region 11 _ false) (Code.seq (Code.region 12 _ false) (Code.cond (.tmp 66) _ .skip))))) (Code.region 14 _ false))) := rfl
    rw [rounds_succ, hcode]
    refine wp_seq (wp_region_lit ?_)
    refine l_env (.bool (decide ((k : Int) < (toks.length : Int)))) w hr rfl rfl rfl (fun a hr => x_bin (hr.arg rfl) (hr.arg rfl) (run_lss _ _ _ _ _)) fun a hr => wpList_nil ?_
    have hf : decide ((k : Int) < (toks.length : Int)) = true := by simpa using hlt
    rw [hf] at hr
    refine wp_seq (wp_cond (t := true) (hr.arg rfl) (wp_skip ?_))
    refine wp_seq (wp_block (wp_seq (wp_region_lit ?_)))
    refine l_env (.int .i64 (k : Int)) w hr rfl rfl rfl (fun a hr => x_move (hr.arg rfl)) fun a hr => ?_
    refine l_env (.pointer (some ⟨g, 0 + k * 2, none⟩)) w hr rfl rfl rfl (fun a hr => x_index slice_30 (hr.arg rfl) (hr.arg rfl) hlt) fun a hr => ?_
    refine l_env _ w hr rfl rfl rfl (fun a hr => x_loadR (hr.arg rfl) (hl'.load hp)) fun a hr => ?_
    refine l_env _ _ hr rfl rfl rfl (fun a hr => alloc62 _ 7 _ _ _ w) fun a hr => ?_
    refine l_env (.int .i64 (k : Int)) _ hr rfl rfl rfl (fun a hr => x_assign (hr.arg rfl)) fun a hr => ?_
    refine l_done _ hr rfl rfl (fun a hr => x_store (hr.arg rfl) (hr.arg rfl) (store_at size_62 (vs := [.string (bs p.2), .string (bs p.1)]) rfl rfl (by simp [Value.oneCell']) (heap_alloc_new w _) (by decide))) fun a hr => wpList_nil ?_
    obtain ⟨b1, g1⟩ := alloc_set w #[.string ⟨#[]⟩, .string ⟨#[]⟩] #[.string (bs p.2), .string (bs p.1)] 62
    generalize hw1 : World.setRow _ _ _ = w1
    have hw1' : (w.alloc (.cells #[.string ⟨#[]⟩, .string ⟨#[]⟩] 62)).setRow w.heap.size #[.string (bs p.2), .string (bs p.1)] = w1 := hw1
    rw [hw1'] at b1 g1
    clear hw1 hw1'
    have g1s := g1.size
    have gI := hI.size
    have hI1 : wx.grownBy w1 none := ⟨g1.os.trans hI.os, g1.tape.trans hI.tape, g1.output.trans hI.output, by omega, fun j hj hne => (g1.block j (by omega) hne).trans (hI.block j hj hne)⟩
    have hr1 := hr2.grown hI1
    refine wp_seq (wp_region_lit ?_)
    refine l_env r w1 hr rfl rfl rfl (fun a hr => x_move (hr.arg rfl)) fun a hr => ?_
    refine l_env (.int .i64 ((0 : Nat) : Int)) w1 hr rfl rfl rfl (fun a hr => x_move (hr.arg rfl)) fun a hr => ?_
    have he := hr1.eq
    rw [he] at hr
    refine l_env (.pointer (some ⟨ob2, 0 + 0 * 2, none⟩)) w1 hr rfl rfl rfl (fun a hr => x_index slice_28 (hr.arg rfl) (hr.arg rfl) (by decide)) fun a hr => ?_
    refine l_env (.pointer (some ⟨ob2, 0 + 0 * 2 + 1, none⟩)) w1 hr rfl rfl rfl (fun a hr => x_field f33_1 (hr.arg rfl)) fun a hr => ?_
    refine l_env (.slice (some ⟨g2, 0, none⟩) toks.length icap2) w1 hr rfl rfl rfl (fun a hr => x_load plain_30 (hr.arg rfl) hr1.items) fun a hr => ?_
    refine l_env (.int .i64 (k : Int)) w1 hr rfl rfl rfl (fun a hr => x_move (hr.arg rfl)) fun a hr => ?_
    refine l_env (.pointer (some ⟨g2, 0 + k * 2, none⟩)) w1 hr rfl rfl rfl (fun a hr => x_index slice_30 (hr.arg rfl) (hr.arg rfl) hlt) fun a hr => ?_
    refine l_env _ w1 hr rfl rfl rfl (fun a hr => x_loadR (hr.arg rfl) (hr1.load hp)) fun a hr => ?_
    refine l_env _ _ hr rfl rfl rfl (fun a hr => alloc62 _ 8 _ _ _ w1) fun a hr => ?_
    refine l_done _ hr rfl rfl (fun a hr => x_store (hr.arg rfl) (hr.arg rfl) (store_at size_62 (vs := [.string (bs p.2), .string (bs p.1)]) rfl rfl (by simp [Value.oneCell']) (heap_alloc_new w1 _) (by decide))) fun a hr => wpList_nil ?_
    obtain ⟨b2, g3⟩ := alloc_set w1 #[.string ⟨#[]⟩, .string ⟨#[]⟩] #[.string (bs p.2), .string (bs p.1)] 62
    generalize hw2 : World.setRow _ _ _ = w2
    have hw2' : (w1.alloc (.cells #[.string ⟨#[]⟩, .string ⟨#[]⟩] 62)).setRow w1.heap.size #[.string (bs p.2), .string (bs p.1)] = w2 := hw2
    rw [hw2'] at b2 g3
    clear hw2 hw2'
    have g3s := g3.size
    have b12 := (g3.block _ (lt_of_block b1) (by simp)).trans b1
    have hI2 : wx.grownBy w2 none := ⟨g3.os.trans hI1.os, g3.tape.trans hI1.tape, g3.output.trans hI1.output, by omega, fun j hj hne => (g3.block j (by omega) hne).trans (hI1.block j hj hne)⟩
    refine wp_seq (wp_region_lit ?_)
    refine l_env _ w2 hr rfl rfl rfl (fun a hr => x_loadR (hr.arg rfl) (load_block agg_62 (cs := [.string (bs p.2), .string (bs p.1)]) b12 rfl)) fun a hr => ?_
    refine l_env _ w2 hr rfl rfl rfl (fun a hr => x_loadR (hr.arg rfl) (load_block agg_62 (cs := [.string (bs p.2), .string (bs p.1)]) b2 rfl)) fun a hr => ?_
    refine l_env (.bool false) w2 hr rfl rfl rfl (fun a hr => x_bin (hr.arg rfl) (hr.arg rfl) (run_neq62 _ _ _ _ _)) fun a hr => wpList_nil ?_
    refine wp_cond (t := false) (hr.arg rfl) (wp_skip ?_)
    refine wp_region_lit ?_
    refine l_env (.int .i64 ((k + 1 : Nat) : Int)) _ hr rfl rfl rfl (fun a hr => x_bin (hr.arg rfl) (hr.arg rfl) (run_inc _ _ k (by omega) _)) fun a hr => ?_
    refine l_env (.int .i64 ((k + 1 : Nat) : Int)) _ hr rfl rfl rfl (fun a hr => x_move (hr.arg rfl)) fun a hr => wpList_nil ?_
    rw [← he] at hr
    exact ih (k + 1) (by omega) a _ (hr.sub (by intro p hp; simp only [eEnv, List.mem_cons, List.not_mem_nil, or_false] at hp; rcases hp with rfl | rfl | rfl | rfl | rfl | rfl | rfl | rfl <;> rfl)) hI2

theorem same_calls (l r : Value) (toks : Toks) (hn : toks.length ≤ 1000) (w : World) (hl0 : ∃ ob cap g icap, Sees1 l toks ob cap g icap w) (hr0 : ∃ ob cap g icap, Sees1 r toks ob cap g icap w) :
    Calls Tryd.prog 8 #[l, r] w fun e w' => e = .returned (.bool true) ∧ w.grownBy w' none := by
  obtain ⟨ob, cap, g, icap, hl⟩ := hl0
  obtain ⟨ob2, cap2, g2, icap2, hr2⟩ := hr0
  have el := hl.eq
  have er := hr2.eq
  subst el
  subst er
  refine calls_of_wp Tryd.func8 rfl ?_
  have hr : VRel 69 [(1, .slice (some ⟨ob2, 0, none⟩) 1 cap2), (0, .slice (some ⟨ob, 0, none⟩) 1 cap)] { tmps := #[.slice (some ⟨ob, 0, none⟩) 1 cap, .slice (some ⟨ob2, 0, none⟩) 1 cap2] ++ Array.replicate (Tryd.f8.ntmps - (#[.slice (some ⟨ob, 0, none⟩) 1 cap, .slice (some ⟨ob2, 0, none⟩) 1 cap2] : Array Value).size) undef, defers := [] } := by
    refine ((VRel.of ?_ rfl).also ?_).also ?_
    · rw [Tryd.ntmps8]
      simp
    · simp
    · simp
  generalize ({ tmps := _, defers := [] } : Act) = a0 at hr ⊢
  refine wp_seq (wp_region_lit (l_env (.bool false) w hr rfl rfl rfl (fun a hr => x_assign (hr.arg rfl)) fun a hr => wpList_nil ?_))
  refine wp_seq (wp_seq (wp_region_lit ?_))
  refine l_env (.slice (some ⟨ob, 0, none⟩) 1 cap) w hr rfl rfl rfl (fun a hr => x_move (hr.arg rfl)) fun a hr => ?_
  refine l_env (.int .i64 ((1 : Nat) : Int)) w hr rfl rfl rfl (fun a hr => x_len slice_28 (hr.arg rfl)) fun a hr => ?_
  refine l_env (.slice (some ⟨ob2, 0, none⟩) 1 cap2) w hr rfl rfl rfl (fun a hr => x_move (hr.arg rfl)) fun a hr => ?_
  refine l_env (.int .i64 ((1 : Nat) : Int)) w hr rfl rfl rfl (fun a hr => x_len slice_28 (hr.arg rfl)) fun a hr => ?_
  refine l_env (.bool false) w hr rfl rfl rfl (fun a hr => x_bin (hr.arg rfl) (hr.arg rfl) (run_neq3 _ _ _ _)) fun a hr => wpList_nil ?_
  refine wp_cond (t := false) (hr.arg rfl) (wp_skip ?_)
  refine wp_seq (wp_seq (wp_region_lit ?_))
  refine l_env (.slice (some ⟨ob, 0, none⟩) 1 cap) w hr rfl rfl rfl (fun a hr => x_move (hr.arg rfl)) fun a hr => ?_
  refine l_env (.int .i64 ((1 : Nat) : Int)) w hr rfl rfl rfl (fun a hr => x_len slice_28 (hr.arg rfl)) fun a hr => ?_
  refine l_env (.int .i64 ((0 : Nat) : Int)) w hr rfl rfl rfl (fun a hr => x_move (hr.arg rfl)) fun a hr => wpList_nil ?_
  refine wp_block (wp_loop_rounds 2 ?_)
  rw [rounds_succ]
  refine wp_seq (wp_region_lit ?_)
  refine l_env (.bool true) w hr rfl rfl rfl (fun a hr => x_bin (hr.arg rfl) (hr.arg rfl) (run_lss _ _ _ _ _)) fun a hr => wpList_nil ?_
  refine wp_seq (wp_cond (t := true) (hr.arg rfl) (wp_skip ?_))
  refine wp_seq (wp_block (wp_seq (wp_region_lit ?_)))
  refine l_env (.int .i64 ((0 : Nat) : Int)) w hr rfl rfl rfl (fun a hr => x_move (hr.arg rfl)) fun a hr => ?_
  refine l_env (.int .i64 ((0 : Nat) : Int)) w hr rfl rfl rfl (fun a hr => x_assign (hr.arg rfl)) fun a hr => wpList_nil ?_
  refine wp_seq (wp_seq (wp_region_quiet_lit (by kernel_rfl) (by kernel_rfl) ?_))
  have hL : ∀ W, (∃ n, W = w.drewN n) → Sees1 (.slice (some ⟨ob, 0, none⟩) 1 cap) toks ob cap g icap W := by
    rintro W ⟨n, rfl⟩
    exact hl.grown ⟨rfl, rfl, rfl, Nat.le_refl _, fun _ _ _ => rfl⟩
  have hRR : ∀ W, (∃ n, W = w.drewN n) → Sees1 (.slice (some ⟨ob2, 0, none⟩) 1 cap2) toks ob2 cap2 g2 icap2 W := by
    rintro W ⟨n, rfl⟩
    exact hr2.grown ⟨rfl, rfl, rfl, Nat.le_refl _, fun _ _ _ => rfl⟩
  refine q_env (.slice (some ⟨ob, 0, none⟩) 1 cap) hr rfl rfl rfl (fun a W hr hW => x_move (hr.arg rfl)) fun a hr => ?_
  refine q_env (.int .i64 ((0 : Nat) : Int)) hr rfl rfl rfl (fun a W hr hW => x_move (hr.arg rfl)) fun a hr => ?_
  refine q_env (.pointer (some ⟨ob, 0 + 0 * 2, none⟩)) hr rfl rfl rfl (fun a W hr hW => x_index slice_28 (hr.arg rfl) (hr.arg rfl) (by decide)) fun a hr => ?_
  refine q_env (.pointer (some ⟨ob, 0 + 0 * 2 + 0, none⟩)) hr rfl rfl rfl (fun a W hr hW => x_field f33_0 (hr.arg rfl)) fun a hr => ?_
  refine q_env posV hr rfl rfl rfl (fun a W hr hW => x_load plain_str (hr.arg rfl) (hL W hW).kind) fun a hr => ?_
  refine q_env (.slice (some ⟨ob2, 0, none⟩) 1 cap2) hr rfl rfl rfl (fun a W hr hW => x_move (hr.arg rfl)) fun a hr => ?_
  refine q_env (.int .i64 ((0 : Nat) : Int)) hr rfl rfl rfl (fun a W hr hW => x_move (hr.arg rfl)) fun a hr => ?_
  refine q_env (.pointer (some ⟨ob2, 0 + 0 * 2, none⟩)) hr rfl rfl rfl (fun a W hr hW => x_index slice_28 (hr.arg rfl) (hr.arg rfl) (by decide)) fun a hr => ?_
  refine q_env (.pointer (some ⟨ob2, 0 + 0 * 2 + 0, none⟩)) hr rfl rfl rfl (fun a W hr hW => x_field f33_0 (hr.arg rfl)) fun a hr => ?_
  refine q_env posV hr rfl rfl rfl (fun a W hr hW => x_load plain_str (hr.arg rfl) (hRR W hW).kind) fun a hr => ?_
  refine q_env (.bool false) hr rfl rfl rfl (fun a W hr hW => x_bin (hr.arg rfl) (hr.arg rfl) (run_neqs _ _ _ _)) fun a hr => ?_
  refine q_env (.bool false) hr rfl rfl rfl (fun a W hr hW => x_move (hr.arg rfl)) fun a hr => ?_
  refine q_envg (.slice (some ⟨ob, 0, none⟩) 1 cap) hr rfl rfl rfl rfl rfl rfl (fun a W hr hW => x_move (hr.arg rfl)) fun a hr => ?_
  refine q_envg (.int .i64 ((0 : Nat) : Int)) hr rfl rfl rfl rfl rfl rfl (fun a W hr hW => x_move (hr.arg rfl)) fun a hr => ?_
  refine q_envg (.pointer (some ⟨ob, 0 + 0 * 2, none⟩)) hr rfl rfl rfl rfl rfl rfl (fun a W hr hW => x_index slice_28 (hr.arg rfl) (hr.arg rfl) (by decide)) fun a hr => ?_
  refine q_envg (.pointer (some ⟨ob, 0 + 0 * 2 + 1, none⟩)) hr rfl rfl rfl rfl rfl rfl (fun a W hr hW => x_field f33_1 (hr.arg rfl)) fun a hr => ?_
  refine q_envg (.slice (some ⟨g, 0, none⟩) toks.length icap) hr rfl rfl rfl rfl rfl rfl (fun a W hr hW => x_load plain_30 (hr.arg rfl) (hL W hW).items) fun a hr => ?_
  refine q_envg (.int .i64 (toks.length : Int)) hr rfl rfl rfl rfl rfl rfl (fun a W hr hW => x_len slice_30 (hr.arg rfl)) fun a hr => ?_
  refine q_envg (.slice (some ⟨ob2, 0, none⟩) 1 cap2) hr rfl rfl rfl rfl rfl rfl (fun a W hr hW => x_move (hr.arg rfl)) fun a hr => ?_
  refine q_envg (.int .i64 ((0 : Nat) : Int)) hr rfl rfl rfl rfl rfl rfl (fun a W hr hW => x_move (hr.arg rfl)) fun a hr => ?_
  refine q_envg (.pointer (some ⟨ob2, 0 + 0 * 2, none⟩)) hr rfl rfl rfl rfl rfl rfl (fun a W hr hW => x_index slice_28 (hr.arg rfl) (hr.arg rfl) (by decide)) fun a hr => ?_
  refine q_envg (.pointer (some ⟨ob2, 0 + 0 * 2 + 1, none⟩)) hr rfl rfl rfl rfl rfl rfl (fun a W hr hW => x_field f33_1 (hr.arg rfl)) fun a hr => ?_
  refine q_envg (.slice (some ⟨g2, 0, none⟩) toks.length icap2) hr rfl rfl rfl rfl rfl rfl (fun a W hr hW => x_load plain_30 (hr.arg rfl) (hRR W hW).items) fun a hr => ?_
  refine q_envg (.int .i64 (toks.length : Int)) hr rfl rfl rfl rfl rfl rfl (fun a W hr hW => x_len slice_30 (hr.arg rfl)) fun a hr => ?_
  refine q_envg (.bool false) hr rfl rfl rfl rfl rfl rfl (fun a W hr hW => x_bin (hr.arg rfl) (hr.arg rfl) (run_neq3 _ _ _ _)) fun a hr => ?_
  refine q_env (.bool false) hr rfl rfl rfl (fun a W hr hW => x_pickF (hr.arg rfl) (hr.arg rfl)) fun a hr => ?_
  refine wpQuiet_nil ?_
  intro w1 hw1
  have hl1 := hL w1 hw1
  have hr1 := hRR w1 hw1
  have g1 : w.grownBy w1 none := by
    obtain ⟨n, rfl⟩ := hw1
    exact ⟨rfl, rfl, rfl, Nat.le_refl _, fun _ _ _ => rfl⟩
  clear hL hRR hw1
  refine wp_cond (t := false) (hr.arg rfl) (wp_skip ?_)
  refine wp_seq (wp_region_lit ?_)
  refine l_env (.slice (some ⟨ob, 0, none⟩) 1 cap) w1 hr rfl rfl rfl (fun a hr => x_move (hr.arg rfl)) fun a hr => ?_
  refine l_env (.int .i64 ((0 : Nat) : Int)) w1 hr rfl rfl rfl (fun a hr => x_move (hr.arg rfl)) fun a hr => ?_
  refine l_env (.pointer (some ⟨ob, 0 + 0 * 2, none⟩)) w1 hr rfl rfl rfl (fun a hr => x_index slice_28 (hr.arg rfl) (hr.arg rfl) (by decide)) fun a hr => ?_
  refine l_env (.pointer (some ⟨ob, 0 + 0 * 2 + 1, none⟩)) w1 hr rfl rfl rfl (fun a hr => x_field f33_1 (hr.arg rfl)) fun a hr => ?_
  refine l_env (.slice (some ⟨g, 0, none⟩) toks.length icap) w1 hr rfl rfl rfl (fun a hr => x_load plain_30 (hr.arg rfl) hl1.items) fun a hr => ?_
  refine l_env (.int .i64 (toks.length : Int)) w1 hr rfl rfl rfl (fun a hr => x_len slice_30 (hr.arg rfl)) fun a hr => ?_
  refine l_env (.int .i64 ((0 : Nat) : Int)) w1 hr rfl rfl rfl (fun a hr => x_move (hr.arg rfl)) fun a hr => wpList_nil ?_
  refine wp_block (wp_loop_rounds (toks.length + 1) (same_round (.slice (some ⟨ob, 0, none⟩) 1 cap) (.slice (some ⟨ob2, 0, none⟩) 1 cap2) toks ob cap g icap ob2 cap2 g2 icap2 hn w1 hl1 hr1 ?_ toks.length 0 (by omega) a w1
    (hr.sub (by intro p hp; simp only [eEnv, List.mem_cons, List.not_mem_nil, or_false] at hp; rcases hp with rfl | rfl | rfl | rfl | rfl | rfl | rfl | rfl <;> rfl)) ⟨rfl, rfl, rfl, Nat.le_refl _, fun _ _ _ => rfl⟩))
  clear hr a
  intro a w2 hr g2'
  refine wp_region_lit ?_
  refine l_env (.int .i64 ((0 + 1 : Nat) : Int)) _ hr rfl rfl rfl (fun a hr => x_bin (hr.arg rfl) (hr.arg rfl) (run_inc _ _ 0 (by omega) _)) fun a hr => ?_
  refine l_env (.int .i64 ((0 + 1 : Nat) : Int)) _ hr rfl rfl rfl (fun a hr => x_move (hr.arg rfl)) fun a hr => wpList_nil ?_
  show Code.rounds P _ _ 1 a w2
  rw [rounds_succ]
  refine wp_seq (wp_region_lit ?_)
  refine l_env (.bool false) w2 hr rfl rfl rfl (fun a hr => x_bin (hr.arg rfl) (hr.arg rfl) (run_lss _ _ _ _ _)) fun a hr => wpList_nil ?_
  refine wp_seq (wp_cond (t := false) (hr.arg rfl) (wp_exit ?_))
  refine wp_seq (wp_region_lit ?_)
  refine l_env (.bool true) w2 hr rfl rfl rfl (fun a hr => x_assign (hr.arg rfl)) fun a hr => wpList_nil (wp_ret ?_)
  refine ⟨hr.defers, _, results_tmp rfl _ _ _, ?_, ?_⟩
  · rw [Array.getD_eq_getD_getElem?, hr.spot 4 _ rfl]
    rfl
  · have := g1.size
    exact ⟨g2'.os.trans g1.os, g2'.tape.trans g1.tape, g2'.output.trans g1.output, Nat.le_trans g1.size g2'.size, fun j hj hne => (g2'.block j (by omega) hne).trans (g1.block j hj hne)⟩
end Go.Nfp
