/- The walk of spec.NumberTokens. -/
import Derived.Test.YtnboaaelhlbnpaaDoorNumLaw
namespace Go.Nfp
open Go Go.Proofs Go.RowKit

/-- The list under way: what the call made so far, and the tokens in it. -/
structure Acc (w0 : World) (toks : Toks) (v : Value) (W : World) : Prop where
  below : Below w0.heap.size w0 W
  own : W.ownsRow w0.heap.size 62 2 v toks.length (specCells toks)

theorem specCells_append (a b : Toks) : specCells (a ++ b) = specCells a ++ specCells b := by simp [specCells]
theorem specCells_length (a : Toks) : (specCells a).length = a.length * 2 := by
  induction a with
  | nil => rfl
  | cons p l ih =>
    have : specCells (p :: l) = [.string (bs p.2), .string (bs p.1)] ++ specCells l := rfl
    rw [this, List.length_append, ih]
    simp
    omega
theorem specCells_one (a : Toks) : ∀ u ∈ specCells a, Value.oneCell' u = true := by
  intro u hu
  simp only [specCells, List.mem_flatMap, List.mem_cons, List.not_mem_nil, or_false] at hu
  obtain ⟨p, -, rfl | rfl⟩ := hu <;> rfl

theorem acc_append {w0 W : World} {toks : Toks} {v : Value} (h : Acc w0 toks v W) (ht : toks.length ≤ 100) (more : Toks) (hm : more.length ≤ 2) :
    ∃ v' W', (Builtin.append_ #[30, 30] 30 #[v, .slice (some ⟨W.heap.size, 0, none⟩) more.length more.length]).run P (W.alloc (.cells (specCells more).toArray 62)) = .ok v' W' ∧ Acc w0 (toks ++ more) v' W' := by
  obtain ⟨i0, hi0, hz0, hz1, hz2⟩ := info_parts info_62
  have hb := h.below.size
  have ga := World.grownBy_alloc W (.cells (specCells more).toArray 62) none
  have gas := ga.size
  have hn := heap_alloc_new W (.cells (specCells more).toArray 62)
  obtain ⟨v', W', hrun, hown, hg, -⟩ := run_append_own (P := P) (W.alloc (.cells (specCells more).toArray 62)) w0.heap.size 30 30 62 i0 _ 2 32 under_30 hi0 hz0 hz1 hz2 rfl (by omega) v toks.length (specCells toks) (h.own.alloc _) ⟨W.heap.size, 0, none⟩ more.length more.length (specCells more) (specCells_length more)
    (fun j u hu => by
      have h2 := cell_of_block (k := j) (v := u) hn (by simpa using hu)
      unfold Addr.add
      split
      · rename_i h0
        subst h0
        exact h2
      · simpa using h2)
    (specCells_one more) (by simp only [maxLen]; omega) (by omega) (by omega)
  refine ⟨v', W', hrun, ?_, ?_⟩
  · have hlt := h.own.lt
    exact (h.below.alloc hb _).grown hg (by omega) fun k hk => (hlt k hk).1
  · rw [specCells_append, List.length_append]
    exact hown

theorem builds_22 (w : World) (c0 c1 c2 c3 : ByteArray) : (Instr.buildSlice 30 2 #[(0, .agg #[.string c0, .string c1]), (1, .agg #[.string c2, .string c3])]).run P w = .ok (.slice (some ⟨w.heap.size, 0, none⟩) 2 2) (w.alloc (.cells #[.string c0, .string c1, .string c2, .string c3] 62)) := by kernel_rfl
theorem x_buildS2 {a : Act} {v : Value} {W W' : World} {dst : Option Tmp} {ty : TypeId} {pos : String} {aft : Array Edge} {gd : Option (Nat × Bool)} {x0 x1 : Operand} {T n : Nat} {u0 u1 : Value}
    (h0 : a.eval x0 = u0) (h1 : a.eval x1 = u1) (h : (Instr.buildSlice T n #[(0, u0), (1, u1)]).run P W = .ok v W') :
    (execOp a.eval ⟨dst, .buildSlice T n #[(0, x0), (1, x1)], ty, pos, aft, gd⟩).run P W = .ok (.value v) W' := by simp [execOp, h0, h1, h]

def numToks (h k p : Nat) (th pc : Bool) : Toks :=
  (if 0 < h then [(rep h 35, hashT)] ++ (if th then [([44], commaT)] else []) else []) ++ [(rep k 48, zeroT)] ++ (if 0 < p then [([46], dotT), (rep p 48, zeroT)] else []) ++ (if pc then [([37], pctT)] else [])

def kEnv (v : Value) (h k p : Nat) (th pc : Bool) : VEnv := [(11, v), (4, .bool pc), (3, .bool th), (2, .int .i64 (p : Int)), (1, .int .i64 (k : Int)), (0, .int .i64 (h : Int))]

theorem numtoks_calls (h k p : Nat) (th pc : Bool) (hh : h ≤ 8) (hk : k ≤ 8) (hp : p ≤ 8) (w : World) :
    Calls Tryd.prog 12 #[.int .i64 (h : Int), .int .i64 (k : Int), .int .i64 (p : Int), .bool th, .bool pc] w fun e w' => ∃ it, e = .returned it ∧ w.grownBy w' none ∧ TokSee it (numToks h k p th pc) w' := by
  refine calls_of_wp Tryd.func12 rfl ?_
  have hr : VRel 46 [(4, .bool pc), (3, .bool th), (2, .int .i64 (p : Int)), (1, .int .i64 (k : Int)), (0, .int .i64 (h : Int))] { tmps := #[.int .i64 (h : Int), .int .i64 (k : Int), .int .i64 (p : Int), .bool th, .bool pc] ++ Array.replicate (Tryd.f12.ntmps - (#[.int .i64 (h : Int), .int .i64 (k : Int), .int .i64 (p : Int), .bool th, .bool pc] : Array Value).size) undef, defers := [] } := by
    refine (((((VRel.of ?_ rfl).also ?_).also ?_).also ?_).also ?_).also ?_
    · rw [Tryd.ntmps12]
      simp
    · simp
    · simp
    · simp
    · simp
    · simp
  generalize ({ tmps := _, defers := [] } : Act) = a0 at hr ⊢
  refine wp_seq (wp_region_lit (l_env (.slice none 0 0) w hr rfl rfl rfl (fun a hr => x_assign (hr.arg rfl)) fun a hr => wpList_nil ?_))
  refine wp_seq (wp_region_lit (l_env (.slice none 0 0) w hr rfl rfl rfl (fun a hr => x_assign (hr.arg rfl)) fun a hr => wpList_nil ?_))
  replace hr : VRel 46 (kEnv (.slice none 0 0) h k p th pc) a := hr.sub (by intro q hq; simp only [kEnv, List.mem_cons, List.not_mem_nil, or_false] at hq; rcases hq with rfl | rfl | rfl | rfl | rfl | rfl <;> rfl)
  have hA : Acc w [] (.slice none 0 0) w := ⟨Below.refl _ _, World.ownsRow_nil _ _ _ _⟩
  -- the hashes, the comma
  refine wp_seq (Code.wp_mono (Q := fun e a' W => e = .normal ∧ ∃ v, Acc w (if 0 < h then [(rep h 35, hashT)] ++ (if th then [([44], commaT)] else []) else []) v W ∧ VRel 46 (kEnv v h k p th pc) a') ?_ ?_)
  rotate_left
  · refine wp_seq (wp_region_lit ?_)
    refine l_env (.int .i64 (h : Int)) w hr rfl rfl rfl (fun a hr => x_move (hr.arg rfl)) fun a hr => ?_
    refine l_env (.bool (decide ((0 : Int) < (h : Int)))) w hr rfl rfl rfl (fun a hr => x_bin (hr.arg rfl) (hr.arg rfl) (run_gtr _ _ _ _ _)) fun a hr => wpList_nil ?_
    by_cases h0 : 0 < h
    · have e1 : decide ((0 : Int) < (h : Int)) = true := by simpa using h0
      rw [e1] at hr
      rw [if_pos h0]
      refine wp_cond (t := true) (hr.arg rfl) (wp_seq (wp_region_lit ?_))
      refine l_env (.slice none 0 0) w hr rfl rfl rfl (fun a hr => x_move (hr.arg rfl)) fun a hr => ?_
      refine l_env (.int .i64 (h : Int)) w hr rfl rfl rfl (fun a hr => x_move (hr.arg rfl)) fun a hr => ?_
      refine l_times 35 h (by omega) hr rfl rfl rfl (fun a hr => x_callv (args2 (hr.arg rfl) (hr.arg rfl)) (enter18 _ _)) fun a hr => ?_
      refine l_env (.agg #[.string (bs hashT), .string (bs (rep h 35))]) w hr rfl rfl rfl (fun a hr => x_build2 (hr.arg rfl) (hr.arg rfl) (build_62 w _ _)) fun a hr => ?_
      refine l_env _ _ hr rfl rfl rfl (fun a hr => x_buildSlice (hr.arg rfl) (builds_62 w _ _)) fun a hr => ?_
      obtain ⟨v1, W1, hrun, hA1⟩ := acc_append hA (by simp) [(rep h 35, hashT)] (by simp)
      refine l_env v1 W1 hr rfl rfl rfl (fun a hr => x_append (hr.arg rfl) (hr.arg rfl) hrun) fun a hr => ?_
      refine l_env v1 W1 hr rfl rfl rfl (fun a hr => x_assign (hr.arg rfl)) fun a hr => wpList_nil ?_
      refine wp_seq (wp_region_lit ?_)
      refine l_env (.bool th) W1 hr rfl rfl rfl (fun a hr => x_move (hr.arg rfl)) fun a hr => wpList_nil ?_
      cases th with
      | true =>
        refine wp_cond (t := true) (hr.arg rfl) (wp_region_lit ?_)
        refine l_env v1 W1 hr rfl rfl rfl (fun a hr => x_move (hr.arg rfl)) fun a hr => ?_
        refine l_env (.agg #[.string (bs commaT), .string (bs [44])]) W1 hr rfl rfl rfl (fun a hr => x_build2 (hr.arg rfl) (hr.arg rfl) (build_62 W1 _ _)) fun a hr => ?_
        refine l_env _ _ hr rfl rfl rfl (fun a hr => x_buildSlice (hr.arg rfl) (builds_62 W1 _ _)) fun a hr => ?_
        obtain ⟨v2, W2, hrun2, hA2⟩ := acc_append hA1 (by simp) [([44], commaT)] (by simp)
        refine l_env v2 W2 hr rfl rfl rfl (fun a hr => x_append (hr.arg rfl) (hr.arg rfl) hrun2) fun a hr => ?_
        refine l_env v2 W2 hr rfl rfl rfl (fun a hr => x_assign (hr.arg rfl)) fun a hr => wpList_nil ⟨rfl, v2, hA2, ?_⟩
        exact hr.sub (by intro q hq; simp only [kEnv, List.mem_cons, List.not_mem_nil, or_false] at hq; rcases hq with rfl | rfl | rfl | rfl | rfl | rfl <;> rfl)
      | false =>
        refine wp_cond (t := false) (hr.arg rfl) (wp_skip ⟨rfl, v1, hA1, ?_⟩)
        exact hr.sub (by intro q hq; simp only [kEnv, List.mem_cons, List.not_mem_nil, or_false] at hq; rcases hq with rfl | rfl | rfl | rfl | rfl | rfl <;> rfl)
    · have e1 : decide ((0 : Int) < (h : Int)) = false := by simpa using h0
      rw [e1] at hr
      rw [if_neg h0]
      refine wp_cond (t := false) (hr.arg rfl) (wp_skip ⟨rfl, _, hA, ?_⟩)
      exact hr.sub (by intro q hq; simp only [kEnv, List.mem_cons, List.not_mem_nil, or_false] at hq; rcases hq with rfl | rfl | rfl | rfl | rfl | rfl <;> rfl)
  clear hr a hA
  rintro e a W ⟨rfl, v, hA, hr⟩
  generalize ht1 : (if 0 < h then [(rep h 35, hashT)] ++ (if th then [([44], commaT)] else []) else []) = t1 at hA
  have l1 : t1.length ≤ 2 := by
    rw [← ht1]
    split
    · split <;> simp
    · simp
  -- the zeros
  refine wp_seq (wp_region_lit ?_)
  refine l_env v W hr rfl rfl rfl (fun a hr => x_move (hr.arg rfl)) fun a hr => ?_
  refine l_env (.int .i64 (k : Int)) W hr rfl rfl rfl (fun a hr => x_move (hr.arg rfl)) fun a hr => ?_
  refine l_times 48 k (by omega) hr rfl rfl rfl (fun a hr => x_callv (args2 (hr.arg rfl) (hr.arg rfl)) (enter18 _ _)) fun a hr => ?_
  refine l_env (.agg #[.string (bs zeroT), .string (bs (rep k 48))]) W hr rfl rfl rfl (fun a hr => x_build2 (hr.arg rfl) (hr.arg rfl) (build_62 W _ _)) fun a hr => ?_
  refine l_env _ _ hr rfl rfl rfl (fun a hr => x_buildSlice (hr.arg rfl) (builds_62 W _ _)) fun a hr => ?_
  obtain ⟨v3, W3, hrun3, hA3⟩ := acc_append hA (by omega) [(rep k 48, zeroT)] (by simp)
  refine l_env v3 W3 hr rfl rfl rfl (fun a hr => x_append (hr.arg rfl) (hr.arg rfl) hrun3) fun a hr => ?_
  refine l_env v3 W3 hr rfl rfl rfl (fun a hr => x_assign (hr.arg rfl)) fun a hr => wpList_nil ?_
  replace hr : VRel 46 (kEnv v3 h k p th pc) a := hr.sub (by intro q hq; simp only [kEnv, List.mem_cons, List.not_mem_nil, or_false] at hq; rcases hq with rfl | rfl | rfl | rfl | rfl | rfl <;> rfl)
  have l3 : (t1 ++ [(rep k 48, zeroT)]).length ≤ 3 := by simp; omega
  generalize ht3 : t1 ++ [(rep k 48, zeroT)] = t3 at hA3 l3
  clear hA hrun3
  -- the places
  refine wp_seq (Code.wp_mono (Q := fun e a' W => e = .normal ∧ ∃ v, Acc w (t3 ++ (if 0 < p then [([46], dotT), (rep p 48, zeroT)] else [])) v W ∧ VRel 46 (kEnv v h k p th pc) a') ?_ ?_)
  rotate_left
  · refine wp_seq (wp_region_lit ?_)
    refine l_env (.int .i64 (p : Int)) W3 hr rfl rfl rfl (fun a hr => x_move (hr.arg rfl)) fun a hr => ?_
    refine l_env (.bool (decide ((0 : Int) < (p : Int)))) W3 hr rfl rfl rfl (fun a hr => x_bin (hr.arg rfl) (hr.arg rfl) (run_gtr _ _ _ _ _)) fun a hr => wpList_nil ?_
    by_cases h0 : 0 < p
    · have e1 : decide ((0 : Int) < (p : Int)) = true := by simpa using h0
      rw [e1] at hr
      rw [if_pos h0]
      refine wp_cond (t := true) (hr.arg rfl) (wp_region_lit ?_)
      refine l_env v3 W3 hr rfl rfl rfl (fun a hr => x_move (hr.arg rfl)) fun a hr => ?_
      refine l_env (.agg #[.string (bs dotT), .string (bs [46])]) W3 hr rfl rfl rfl (fun a hr => x_build2 (hr.arg rfl) (hr.arg rfl) (build_62 W3 _ _)) fun a hr => ?_
      refine l_env (.int .i64 (p : Int)) W3 hr rfl rfl rfl (fun a hr => x_move (hr.arg rfl)) fun a hr => ?_
      refine l_times 48 p (by omega) hr rfl rfl rfl (fun a hr => x_callv (args2 (hr.arg rfl) (hr.arg rfl)) (enter18 _ _)) fun a hr => ?_
      refine l_env (.agg #[.string (bs zeroT), .string (bs (rep p 48))]) W3 hr rfl rfl rfl (fun a hr => x_build2 (hr.arg rfl) (hr.arg rfl) (build_62 W3 _ _)) fun a hr => ?_
      refine l_env _ _ hr rfl rfl rfl (fun a hr => x_buildS2 (hr.arg rfl) (hr.arg rfl) (builds_22 W3 _ _ _ _)) fun a hr => ?_
      obtain ⟨v4, W4, hrun4, hA4⟩ := acc_append hA3 (by omega) [([46], dotT), (rep p 48, zeroT)] (by simp)
      refine l_env v4 W4 hr rfl rfl rfl (fun a hr => x_append (hr.arg rfl) (hr.arg rfl) hrun4) fun a hr => ?_
      refine l_env v4 W4 hr rfl rfl rfl (fun a hr => x_assign (hr.arg rfl)) fun a hr => wpList_nil ⟨rfl, v4, hA4, ?_⟩
      exact hr.sub (by intro q hq; simp only [kEnv, List.mem_cons, List.not_mem_nil, or_false] at hq; rcases hq with rfl | rfl | rfl | rfl | rfl | rfl <;> rfl)
    · have e1 : decide ((0 : Int) < (p : Int)) = false := by simpa using h0
      rw [e1] at hr
      rw [if_neg h0, List.append_nil]
      refine wp_cond (t := false) (hr.arg rfl) (wp_skip ⟨rfl, _, hA3, ?_⟩)
      exact hr.sub (by intro q hq; simp only [kEnv, List.mem_cons, List.not_mem_nil, or_false] at hq; rcases hq with rfl | rfl | rfl | rfl | rfl | rfl <;> rfl)
  clear hr a hA3
  rintro e a W ⟨rfl, v, hA, hr⟩
  generalize ht4 : t3 ++ (if 0 < p then [([46], dotT), (rep p 48, zeroT)] else []) = t4 at hA
  have l4 : t4.length ≤ 5 := by
    rw [← ht4]
    split <;> simp <;> omega
  -- the sign
  refine wp_seq (Code.wp_mono (Q := fun e a' W => e = .normal ∧ ∃ v, Acc w (t4 ++ (if pc then [([37], pctT)] else [])) v W ∧ VRel 46 (kEnv v h k p th pc) a') ?_ ?_)
  rotate_left
  · refine wp_seq (wp_region_lit ?_)
    refine l_env (.bool pc) W hr rfl rfl rfl (fun a hr => x_move (hr.arg rfl)) fun a hr => wpList_nil ?_
    cases pc with
    | true =>
      refine wp_cond (t := true) (hr.arg rfl) (wp_region_lit ?_)
      refine l_env v W hr rfl rfl rfl (fun a hr => x_move (hr.arg rfl)) fun a hr => ?_
      refine l_env (.agg #[.string (bs pctT), .string (bs [37])]) W hr rfl rfl rfl (fun a hr => x_build2 (hr.arg rfl) (hr.arg rfl) (build_62 W _ _)) fun a hr => ?_
      refine l_env _ _ hr rfl rfl rfl (fun a hr => x_buildSlice (hr.arg rfl) (builds_62 W _ _)) fun a hr => ?_
      obtain ⟨v5, W5, hrun5, hA5⟩ := acc_append hA (by omega) [([37], pctT)] (by simp)
      refine l_env v5 W5 hr rfl rfl rfl (fun a hr => x_append (hr.arg rfl) (hr.arg rfl) hrun5) fun a hr => ?_
      refine l_env v5 W5 hr rfl rfl rfl (fun a hr => x_assign (hr.arg rfl)) fun a hr => wpList_nil ⟨rfl, v5, hA5, ?_⟩
      exact hr.sub (by intro q hq; simp only [kEnv, List.mem_cons, List.not_mem_nil, or_false] at hq; rcases hq with rfl | rfl | rfl | rfl | rfl | rfl <;> rfl)
    | false =>
      refine wp_cond (t := false) (hr.arg rfl) (wp_skip ⟨rfl, v, by rw [if_neg (by decide), List.append_nil]; exact hA, ?_⟩)
      exact hr.sub (by intro q hq; simp only [kEnv, List.mem_cons, List.not_mem_nil, or_false] at hq; rcases hq with rfl | rfl | rfl | rfl | rfl | rfl <;> rfl)
  clear hr a hA
  rintro e a W ⟨rfl, v, hA, hr⟩
  have ef : t4 ++ (if pc then [([37], pctT)] else []) = numToks h k p th pc := by rw [← ht4, ← ht3, ← ht1]; rfl
  rw [ef] at hA
  refine wp_seq (wp_region_lit ?_)
  refine l_env v W hr rfl rfl rfl (fun a hr => x_move (hr.arg rfl)) fun a hr => ?_
  refine l_env v W hr rfl rfl rfl (fun a hr => x_assign (hr.arg rfl)) fun a hr => wpList_nil (wp_ret ?_)
  refine ⟨hr.defers, _, results_tmp rfl _ _ _, v, ?_, ⟨hA.below.os, hA.below.tape, hA.below.output, hA.below.size, fun j hj _ => hA.below.block j hj⟩, ?_⟩
  · rw [Array.getD_eq_getD_getElem?, hr.spot 10 _ rfl]
    rfl
  · have hown := hA.own
    rcases hown.2 with ⟨-, h0⟩ | ⟨g, icap, cur, rfl, -⟩
    · have : (numToks h k p th pc).length ≠ 0 := by
        rw [← ef, ← ht4, ← ht3]
        simp
      exact absurd h0 this
    · exact ⟨g, icap, rfl, fun j u hu => cellAt hown hu⟩
end Go.Nfp
