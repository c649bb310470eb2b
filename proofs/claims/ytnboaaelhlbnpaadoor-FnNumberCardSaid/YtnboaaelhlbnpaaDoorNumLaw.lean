/- The walks of spec.NumberText and spec.NumberTokens. -/
import Derived.Test.YtnboaaelhlbnpaaDoorScans
namespace Go.Nfp
open Go Go.Proofs Go.RowKit

theorem run_gtr (x y : Operand) (m n : Int) (w : World) : (do eqGuard .gtr 3 x y (.int .i64 m) (.int .i64 n); binOp .gtr 3 (.int .i64 m) (.int .i64 n) : Sem Value).run P w = .ok (.bool (decide (n < m))) w := by
  simp [eqGuard, binOp, Op.intCmp]

def numText (h k p : Nat) (th pc : Bool) : List UInt8 :=
  rep h 35 ++ (if th && decide (0 < h) then [44] else []) ++ rep k 48 ++ (if 0 < p then [46] ++ rep p 48 else []) ++ (if pc then [37] else [])

def nEnv (s : List UInt8) (h k p : Nat) (th pc : Bool) : VEnv := [(11, .string (bs s)), (4, .bool pc), (3, .bool th), (2, .int .i64 (p : Int)), (1, .int .i64 (k : Int)), (0, .int .i64 (h : Int))]

theorem numtext_calls (h k p : Nat) (th pc : Bool) (hh : h ≤ 8) (hk : k ≤ 8) (hp : p ≤ 8) (w : World) :
    Calls Tryd.prog 11 #[.int .i64 (h : Int), .int .i64 (k : Int), .int .i64 (p : Int), .bool th, .bool pc] w fun e w' => e = .returned (.string (bs (numText h k p th pc))) ∧ w' = w := by
  refine calls_of_wp Tryd.func11 rfl ?_
  have hr : VRel 36 [(4, .bool pc), (3, .bool th), (2, .int .i64 (p : Int)), (1, .int .i64 (k : Int)), (0, .int .i64 (h : Int))] { tmps := #[.int .i64 (h : Int), .int .i64 (k : Int), .int .i64 (p : Int), .bool th, .bool pc] ++ Array.replicate (Tryd.f11.ntmps - (#[.int .i64 (h : Int), .int .i64 (k : Int), .int .i64 (p : Int), .bool th, .bool pc] : Array Value).size) undef, defers := [] } := by
    refine (((((VRel.of ?_ rfl).also ?_).also ?_).also ?_).also ?_).also ?_
    · rw [Tryd.ntmps11]
      simp
    · simp
    · simp
    · simp
    · simp
    · simp
  generalize ({ tmps := _, defers := [] } : Act) = a0 at hr ⊢
  have lh : (rep h 35).length = h := by simp [rep]
  have lk : (rep k 48).length = k := by simp [rep]
  have lp : (rep p 48).length = p := by simp [rep]
  refine wp_seq (wp_region_lit (l_env (.string ⟨#[]⟩) w hr rfl rfl rfl (fun a hr => x_assign (hr.arg rfl)) fun a hr => wpList_nil ?_))
  refine wp_seq (wp_region_lit ?_)
  refine l_env (.int .i64 (h : Int)) w hr rfl rfl rfl (fun a hr => x_move (hr.arg rfl)) fun a hr => ?_
  refine l_times 35 h (by omega) hr rfl rfl rfl (fun a hr => x_callv (args2 (hr.arg rfl) (hr.arg rfl)) (enter18 _ _)) fun a hr => ?_
  refine l_env (.string (bs (rep h 35))) w hr rfl rfl rfl (fun a hr => x_assign (hr.arg rfl)) fun a hr => wpList_nil ?_
  replace hr : VRel 36 (nEnv (rep h 35) h k p th pc) a := hr.sub (by intro q hq; simp only [nEnv, List.mem_cons, List.not_mem_nil, or_false] at hq; rcases hq with rfl | rfl | rfl | rfl | rfl | rfl <;> rfl)
  -- the comma
  refine wp_seq (Code.wp_mono (Q := fun e a' w' => e = .normal ∧ w = w' ∧ VRel 36 (nEnv (rep h 35 ++ (if th && decide (0 < h) then [44] else [])) h k p th pc) a') ?_ ?_)
  rotate_left
  · refine wp_seq (wp_region_lit ?_)
    refine l_env (.bool th) w hr rfl rfl rfl (fun a hr => x_move (hr.arg rfl)) fun a hr => ?_
    refine l_env (.bool th) w hr rfl rfl rfl (fun a hr => x_move (hr.arg rfl)) fun a hr => ?_
    cases th with
    | false =>
      refine l_skipg hr rfl rfl rfl rfl rfl rfl fun a hr => ?_
      refine l_skipg hr rfl rfl rfl rfl rfl rfl fun a hr => ?_
      refine l_env (.bool false) w hr rfl rfl rfl (fun a hr => x_pickF (hr.arg rfl) (hr.arg rfl)) fun a hr => wpList_nil ?_
      refine wp_cond (t := false) (hr.arg rfl) (wp_skip ⟨rfl, rfl, ?_⟩)
      simp only [Bool.false_and, Bool.false_eq_true, if_false, List.append_nil]
      exact hr.sub (by intro q hq; simp only [nEnv, List.mem_cons, List.not_mem_nil, or_false] at hq; rcases hq with rfl | rfl | rfl | rfl | rfl | rfl <;> rfl)
    | true =>
      refine l_envg (.int .i64 (h : Int)) w hr rfl rfl rfl rfl rfl rfl (fun a hr => x_move (hr.arg rfl)) fun a hr => ?_
      refine l_envg (.bool (decide ((0 : Int) < (h : Int)))) w hr rfl rfl rfl rfl rfl rfl (fun a hr => x_bin (hr.arg rfl) (hr.arg rfl) (run_gtr _ _ _ _ _)) fun a hr => ?_
      by_cases h0 : 0 < h
      · have e1 : decide ((0 : Int) < (h : Int)) = true := by simpa using h0
        rw [e1] at hr
        refine l_env (.bool true) w hr rfl rfl rfl (fun a hr => x_pickT (hr.arg rfl) (hr.arg rfl)) fun a hr => wpList_nil ?_
        refine wp_cond (t := true) (hr.arg rfl) (wp_region_lit ?_)
        refine l_env (.string (bs (rep h 35))) w hr rfl rfl rfl (fun a hr => x_move (hr.arg rfl)) fun a hr => ?_
        refine l_env (.string (bs (rep h 35 ++ [44]))) w hr rfl rfl rfl (fun a hr => x_bin (hr.arg rfl) (hr.arg rfl) (run_cat _ _ _ _ (by simp [lh]; omega) _)) fun a hr => ?_
        refine l_env (.string (bs (rep h 35 ++ [44]))) w hr rfl rfl rfl (fun a hr => x_assign (hr.arg rfl)) fun a hr => wpList_nil ⟨rfl, rfl, ?_⟩
        have e2 : (true && decide (0 < h)) = true := by simpa using h0
        rw [e2, if_pos rfl]
        exact hr.sub (by intro q hq; simp only [nEnv, List.mem_cons, List.not_mem_nil, or_false] at hq; rcases hq with rfl | rfl | rfl | rfl | rfl | rfl <;> rfl)
      · have e1 : decide ((0 : Int) < (h : Int)) = false := by simpa using h0
        rw [e1] at hr
        refine l_env (.bool false) w hr rfl rfl rfl (fun a hr => x_pickT (hr.arg rfl) (hr.arg rfl)) fun a hr => wpList_nil ?_
        refine wp_cond (t := false) (hr.arg rfl) (wp_skip ⟨rfl, rfl, ?_⟩)
        have e2 : (true && decide (0 < h)) = false := by simpa using h0
        rw [e2, if_neg (by decide), List.append_nil]
        exact hr.sub (by intro q hq; simp only [nEnv, List.mem_cons, List.not_mem_nil, or_false] at hq; rcases hq with rfl | rfl | rfl | rfl | rfl | rfl <;> rfl)
  clear hr a
  rintro e a w' ⟨rfl, hw, hr⟩
  subst hw
  generalize hs1 : rep h 35 ++ (if th && decide (0 < h) then [44] else []) = s1 at hr
  have l1 : s1.length ≤ 9 := by
    rw [← hs1]
    split <;> simp [lh] <;> omega
  -- the zeros
  refine wp_seq (wp_region_lit ?_)
  refine l_env (.string (bs s1)) w hr rfl rfl rfl (fun a hr => x_move (hr.arg rfl)) fun a hr => ?_
  refine l_env (.int .i64 (k : Int)) w hr rfl rfl rfl (fun a hr => x_move (hr.arg rfl)) fun a hr => ?_
  refine l_times 48 k (by omega) hr rfl rfl rfl (fun a hr => x_callv (args2 (hr.arg rfl) (hr.arg rfl)) (enter18 _ _)) fun a hr => ?_
  refine l_env (.string (bs (s1 ++ rep k 48))) w hr rfl rfl rfl (fun a hr => x_bin (hr.arg rfl) (hr.arg rfl) (run_cat _ _ _ _ (by simp [lk]; omega) _)) fun a hr => ?_
  refine l_env (.string (bs (s1 ++ rep k 48))) w hr rfl rfl rfl (fun a hr => x_assign (hr.arg rfl)) fun a hr => wpList_nil ?_
  replace hr : VRel 36 (nEnv (s1 ++ rep k 48) h k p th pc) a := hr.sub (by intro q hq; simp only [nEnv, List.mem_cons, List.not_mem_nil, or_false] at hq; rcases hq with rfl | rfl | rfl | rfl | rfl | rfl <;> rfl)
  -- the places
  refine wp_seq (Code.wp_mono (Q := fun e a' w' => e = .normal ∧ w = w' ∧ VRel 36 (nEnv (s1 ++ rep k 48 ++ (if 0 < p then [46] ++ rep p 48 else [])) h k p th pc) a') ?_ ?_)
  rotate_left
  · refine wp_seq (wp_region_lit ?_)
    refine l_env (.int .i64 (p : Int)) w hr rfl rfl rfl (fun a hr => x_move (hr.arg rfl)) fun a hr => ?_
    refine l_env (.bool (decide ((0 : Int) < (p : Int)))) w hr rfl rfl rfl (fun a hr => x_bin (hr.arg rfl) (hr.arg rfl) (run_gtr _ _ _ _ _)) fun a hr => wpList_nil ?_
    by_cases h0 : 0 < p
    · have e1 : decide ((0 : Int) < (p : Int)) = true := by simpa using h0
      rw [e1] at hr
      refine wp_cond (t := true) (hr.arg rfl) (wp_region_lit ?_)
      refine l_env (.string (bs (s1 ++ rep k 48))) w hr rfl rfl rfl (fun a hr => x_move (hr.arg rfl)) fun a hr => ?_
      refine l_env (.int .i64 (p : Int)) w hr rfl rfl rfl (fun a hr => x_move (hr.arg rfl)) fun a hr => ?_
      refine l_times 48 p (by omega) hr rfl rfl rfl (fun a hr => x_callv (args2 (hr.arg rfl) (hr.arg rfl)) (enter18 _ _)) fun a hr => ?_
      refine l_env (.string (bs ([46] ++ rep p 48))) w hr rfl rfl rfl (fun a hr => x_bin (hr.arg rfl) (hr.arg rfl) (run_cat _ _ [46] _ (by simp [lp]; omega) _)) fun a hr => ?_
      refine l_env (.string (bs (s1 ++ rep k 48 ++ ([46] ++ rep p 48)))) w hr rfl rfl rfl (fun a hr => x_bin (hr.arg rfl) (hr.arg rfl) (run_cat _ _ _ _ (by simp [lp, lk]; omega) _)) fun a hr => ?_
      refine l_env (.string (bs (s1 ++ rep k 48 ++ ([46] ++ rep p 48)))) w hr rfl rfl rfl (fun a hr => x_assign (hr.arg rfl)) fun a hr => wpList_nil ⟨rfl, rfl, ?_⟩
      rw [if_pos h0]
      exact hr.sub (by intro q hq; simp only [nEnv, List.mem_cons, List.not_mem_nil, or_false] at hq; rcases hq with rfl | rfl | rfl | rfl | rfl | rfl <;> rfl)
    · have e1 : decide ((0 : Int) < (p : Int)) = false := by simpa using h0
      rw [e1] at hr
      refine wp_cond (t := false) (hr.arg rfl) (wp_skip ⟨rfl, rfl, ?_⟩)
      rw [if_neg h0, List.append_nil]
      exact hr.sub (by intro q hq; simp only [nEnv, List.mem_cons, List.not_mem_nil, or_false] at hq; rcases hq with rfl | rfl | rfl | rfl | rfl | rfl <;> rfl)
  clear hr a
  rintro e a w' ⟨rfl, hw, hr⟩
  subst hw
  generalize hs2 : s1 ++ rep k 48 ++ (if 0 < p then [46] ++ rep p 48 else []) = s2 at hr
  have l2 : s2.length ≤ 100 := by
    rw [← hs2]
    split <;> simp [lk, lp] <;> omega
  -- the sign
  refine wp_seq (Code.wp_mono (Q := fun e a' w' => e = .normal ∧ w = w' ∧ VRel 36 (nEnv (s2 ++ (if pc then [37] else [])) h k p th pc) a') ?_ ?_)
  rotate_left
  · refine wp_seq (wp_region_lit ?_)
    refine l_env (.bool pc) w hr rfl rfl rfl (fun a hr => x_move (hr.arg rfl)) fun a hr => wpList_nil ?_
    cases pc with
    | true =>
      refine wp_cond (t := true) (hr.arg rfl) (wp_region_lit ?_)
      refine l_env (.string (bs s2)) w hr rfl rfl rfl (fun a hr => x_move (hr.arg rfl)) fun a hr => ?_
      refine l_env (.string (bs (s2 ++ [37]))) w hr rfl rfl rfl (fun a hr => x_bin (hr.arg rfl) (hr.arg rfl) (run_cat _ _ _ _ (by simp; omega) _)) fun a hr => ?_
      refine l_env (.string (bs (s2 ++ [37]))) w hr rfl rfl rfl (fun a hr => x_assign (hr.arg rfl)) fun a hr => wpList_nil ⟨rfl, rfl, ?_⟩
      exact hr.sub (by intro q hq; simp only [nEnv, List.mem_cons, List.not_mem_nil, or_false] at hq; rcases hq with rfl | rfl | rfl | rfl | rfl | rfl <;> rfl)
    | false =>
      refine wp_cond (t := false) (hr.arg rfl) (wp_skip ⟨rfl, rfl, ?_⟩)
      rw [if_neg (by decide), List.append_nil]
      exact hr.sub (by intro q hq; simp only [nEnv, List.mem_cons, List.not_mem_nil, or_false] at hq; rcases hq with rfl | rfl | rfl | rfl | rfl | rfl <;> rfl)
  clear hr a
  rintro e a w' ⟨rfl, hw, hr⟩
  subst hw
  have ef : s2 ++ (if pc then [37] else []) = numText h k p th pc := by rw [← hs2, ← hs1]; rfl
  rw [ef] at hr
  refine wp_seq (wp_region_lit ?_)
  refine l_env (.string (bs (numText h k p th pc))) w hr rfl rfl rfl (fun a hr => x_move (hr.arg rfl)) fun a hr => ?_
  refine l_env (.string (bs (numText h k p th pc))) w hr rfl rfl rfl (fun a hr => x_assign (hr.arg rfl)) fun a hr => wpList_nil (wp_ret ?_)
  refine ⟨hr.defers, _, results_tmp rfl _ _ _, ?_, rfl⟩
  rw [Array.getD_eq_getD_getElem?, hr.spot 10 _ rfl]
  rfl
end Go.Nfp
