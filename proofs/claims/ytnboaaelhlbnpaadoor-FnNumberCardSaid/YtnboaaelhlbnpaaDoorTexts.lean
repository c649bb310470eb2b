/- The walks of spec.times, ExponentText and NumberText. -/
import Derived.Test.YtnboaaelhlbnpaaDoorSecs
namespace Go.Nfp
open Go Go.Proofs Go.RowKit

def rep (n : Nat) (c : UInt8) : List UInt8 := List.replicate n c

theorem run_cat (x y : Operand) (l l' : List UInt8) (h : l.length + l'.length ≤ 1000000) (w : World) : (do eqGuard .add 9 x y (.string (bs l)) (.string (bs l')); binOp .add 9 (.string (bs l)) (.string (bs l')) : Sem Value).run P w = .ok (.string (bs (l ++ l'))) w := by
  have e := stringAdd w l l' (by omega)
  simp [eqGuard, binOp, e]

noncomputable def tBody : Code := (Tryd.f18.body.bind loopBody).getD .skip

theorem times_round (c : UInt8) (n : Nat) (hn : n ≤ 1000) (w : World) {Q : Exit → Act → World → Prop} (hQ : ∀ a, VRel 14 [(5, .string (bs (rep n c)))] a → Q (.exit 0) a w) :
    ∀ m k, k + m = n → ∀ a, VRel 14 [(7, .int .i64 (k : Int)), (6, .int .i64 (n : Int)), (5, .string (bs (rep k c))), (0, .string (bs [c]))] a → Code.rounds P tBody Q (m + 1) a w := by
  intro m
  induction m with
  | zero =>
    intro k hk a hr
    have hkn : k = n := by omega
    subst hkn
    have hcode : tBody = Code.seq (Code.region 3 _ false) (Code.seq (Code.cond (.tmp 8) .skip (.exit 0)) _) := rfl
    rw [rounds_succ, hcode]
    refine wp_seq (wp_region_lit ?_)
    refine l_env (.bool (decide ((k : Int) < (k : Int)))) w hr rfl rfl rfl (fun a hr => x_bin (hr.arg rfl) (hr.arg rfl) (run_lss _ _ _ _ _)) fun a hr => wpList_nil ?_
    have hf : decide ((k : Int) < (k : Int)) = false := by simp
    rw [hf] at hr
    refine wp_seq (wp_cond (t := false) (hr.arg rfl) ?_)
    exact wp_exit (hQ a (hr.sub (by intro p hp; simp only [List.mem_cons, List.not_mem_nil, or_false] at hp; rcases hp with rfl; rfl)))
  | succ m ih =>
    intro k hk a hr
    have hcode : tBody = Code.seq (Code.region 3 _ false) (Code.seq (Code.cond (.tmp 8) .skip (.exit 0)) (Code.seq (Code.block 1 (Code.region 4 _ false)) (Code.region 5 _ false))) := rfl
    rw [rounds_succ, hcode]
    refine wp_seq (wp_region_lit ?_)
    refine l_env (.bool (decide ((k : Int) < (n : Int)))) w hr rfl rfl rfl (fun a hr => x_bin (hr.arg rfl) (hr.arg rfl) (run_lss _ _ _ _ _)) fun a hr => wpList_nil ?_
    have hf : decide ((k : Int) < (n : Int)) = true := by simp; omega
    rw [hf] at hr
    refine wp_seq (wp_cond (t := true) (hr.arg rfl) (wp_skip ?_))
    refine wp_seq (wp_block (wp_region_lit ?_))
    have hcat : rep k c ++ [c] = rep (k + 1) c := by simp [rep, List.replicate_succ']
    refine l_env (.string (bs (rep k c))) w hr rfl rfl rfl (fun a hr => x_move (hr.arg rfl)) fun a hr => ?_
    refine l_env (.string (bs [c])) w hr rfl rfl rfl (fun a hr => x_move (hr.arg rfl)) fun a hr => ?_
    refine l_env (.string (bs (rep k c ++ [c]))) w hr rfl rfl rfl (fun a hr => x_bin (hr.arg rfl) (hr.arg rfl) (run_cat _ _ _ _ (by simp [rep]; omega) _)) fun a hr => ?_
    refine l_env (.string (bs (rep k c ++ [c]))) w hr rfl rfl rfl (fun a hr => x_assign (hr.arg rfl)) fun a hr => wpList_nil ?_
    rw [hcat] at hr
    refine wp_region_lit ?_
    refine l_env (.int .i64 ((k + 1 : Nat) : Int)) w hr rfl rfl rfl (fun a hr => x_bin (hr.arg rfl) (hr.arg rfl) (run_inc _ _ k (by omega) _)) fun a hr => ?_
    refine l_env (.int .i64 ((k + 1 : Nat) : Int)) w hr rfl rfl rfl (fun a hr => x_move (hr.arg rfl)) fun a hr => wpList_nil ?_
    exact ih (k + 1) (by omega) a (hr.sub (by intro p hp; simp only [List.mem_cons, List.not_mem_nil, or_false] at hp; rcases hp with rfl | rfl | rfl | rfl <;> rfl))

theorem times_calls (c : UInt8) (n : Nat) (hn : n ≤ 1000) (w : World) : Calls Tryd.prog 18 #[.string (bs [c]), .int .i64 (n : Int)] w fun e w' => e = .returned (.string (bs (rep n c))) ∧ w' = w := by
  refine calls_of_wp Tryd.func18 rfl ?_
  have hr : VRel 14 [(1, .int .i64 (n : Int)), (0, .string (bs [c]))] { tmps := #[.string (bs [c]), .int .i64 (n : Int)] ++ Array.replicate (Tryd.f18.ntmps - (#[.string (bs [c]), .int .i64 (n : Int)] : Array Value).size) undef, defers := [] } := by
    refine ((VRel.of ?_ rfl).also ?_).also ?_
    · rw [Tryd.ntmps18]
      simp
    · simp
    · simp
  generalize ({ tmps := _, defers := [] } : Act) = a0 at hr ⊢
  refine wp_seq (wp_region_lit (l_env (.string ⟨#[]⟩) w hr rfl rfl rfl (fun a hr => x_assign (hr.arg rfl)) fun a hr => wpList_nil ?_))
  refine wp_seq (wp_region_lit (l_env (.string (bs (rep 0 c))) w hr rfl rfl rfl (fun a hr => x_assign (hr.arg rfl)) fun a hr => wpList_nil ?_))
  refine wp_seq (wp_seq (wp_region_lit ?_))
  refine l_env (.int .i64 (n : Int)) w hr rfl rfl rfl (fun a hr => x_move (hr.arg rfl)) fun a hr => ?_
  refine l_env (.int .i64 ((0 : Nat) : Int)) w hr rfl rfl rfl (fun a hr => x_move (hr.arg rfl)) fun a hr => wpList_nil ?_
  refine wp_block (wp_loop_rounds (n + 1) (times_round c n hn w ?_ n 0 (by omega) a (hr.sub (by intro p hp; simp only [List.mem_cons, List.not_mem_nil, or_false] at hp; rcases hp with rfl | rfl | rfl | rfl <;> rfl))))
  clear hr a
  intro a hr
  refine wp_seq (wp_region_lit ?_)
  refine l_env (.string (bs (rep n c))) w hr rfl rfl rfl (fun a hr => x_move (hr.arg rfl)) fun a hr => ?_
  refine l_env (.string (bs (rep n c))) w hr rfl rfl rfl (fun a hr => x_assign (hr.arg rfl)) fun a hr => wpList_nil (wp_ret ?_)
  refine ⟨hr.defers, _, results_tmp rfl _ _ _, ?_, rfl⟩
  rw [Array.getD_eq_getD_getElem?, hr.spot 4 _ rfl]
  rfl

theorem args2 {a : Act} {x y : Operand} {u v : Value} (hx : a.eval x = u) (hy : a.eval y = v) : (#[x, y] : Array Operand).map a.eval = #[u, v] := by simp [hx, hy]
theorem args3 {a : Act} {x y z : Operand} {u v t : Value} (hx : a.eval x = u) (hy : a.eval y = v) (hz : a.eval z = t) : (#[x, y, z] : Array Operand).map a.eval = #[u, v, t] := by simp [hx, hy, hz]
theorem enter18 (w : World) (args : Array Value) : (callFunc 18 args).run P w = .ok (.enter 18 args) w := by kernel_rfl

section
variable {ops : Array Oper} {a : Act} {o : Oper} {rest : List Oper} {w : World} {N t : Nat} {env : VEnv} {Q : Exit → Act → World → Prop}
/-- A call of times at a written text of one byte. -/
theorem l_times (c : UInt8) (n : Nat) (hn : n ≤ 1000) (hr : VRel N env a) (hg : o.guard = none) (hd : o.dst = some t) (ht : Nat.blt t N = true) (hrun : ∀ a, VRel N env a → (execOp a.eval o).run P w = .ok (.enter 18 #[.string (bs [c]), .int .i64 (n : Int)]) w)
    (h : ∀ a', VRel N ((t, .string (bs (rep n c))) :: env) a' → wpList P ops Q rest a' w) : wpList P ops Q (o :: rest) a w :=
  l_call 18 _ _ hr hg hd ht hrun (times_calls c n hn w) fun a' w' hr' hw => by
    subst hw
    exact h a' hr'
end

def expText (a b c : Nat) : List UInt8 := rep a 48 ++ [46] ++ rep b 48 ++ [69, 43] ++ rep c 48

theorem exptext_calls (a b c : Nat) (ha : a ≤ 8) (hb : b ≤ 8) (hc : c ≤ 8) (w : World) : Calls Tryd.prog 7 #[.int .i64 (a : Int), .int .i64 (b : Int), .int .i64 (c : Int)] w fun e w' => e = .returned (.string (bs (expText a b c))) ∧ w' = w := by
  refine calls_of_wp Tryd.func7 rfl ?_
  have hr : VRel 17 [(2, .int .i64 (c : Int)), (1, .int .i64 (b : Int)), (0, .int .i64 (a : Int))] { tmps := #[.int .i64 (a : Int), .int .i64 (b : Int), .int .i64 (c : Int)] ++ Array.replicate (Tryd.f7.ntmps - (#[.int .i64 (a : Int), .int .i64 (b : Int), .int .i64 (c : Int)] : Array Value).size) undef, defers := [] } := by
    refine (((VRel.of ?_ rfl).also ?_).also ?_).also ?_
    · rw [Tryd.ntmps7]
      simp
    · simp
    · simp
    · simp
  generalize ({ tmps := _, defers := [] } : Act) = a0 at hr ⊢
  have la : (rep a 48).length = a := by simp [rep]
  have lb : (rep b 48).length = b := by simp [rep]
  have lc : (rep c 48).length = c := by simp [rep]
  refine wp_seq (wp_region_lit (l_env (.string ⟨#[]⟩) w hr rfl rfl rfl (fun a hr => x_assign (hr.arg rfl)) fun a' hr => wpList_nil ?_))
  refine wp_seq (wp_region_lit ?_)
  refine l_env (.int .i64 (a : Int)) w hr rfl rfl rfl (fun a hr => x_move (hr.arg rfl)) fun a' hr => ?_
  refine l_times 48 a (by omega) hr rfl rfl rfl (fun a hr => x_callv (args2 (hr.arg rfl) (hr.arg rfl)) (enter18 _ _)) fun a' hr => ?_
  refine l_env (.string (bs (rep a 48 ++ [46]))) w hr rfl rfl rfl (fun a hr => x_bin (hr.arg rfl) (hr.arg rfl) (run_cat _ _ _ _ (by simp [la]; omega) _)) fun a' hr => ?_
  refine l_env (.int .i64 (b : Int)) w hr rfl rfl rfl (fun a hr => x_move (hr.arg rfl)) fun a' hr => ?_
  refine l_times 48 b (by omega) hr rfl rfl rfl (fun a hr => x_callv (args2 (hr.arg rfl) (hr.arg rfl)) (enter18 _ _)) fun a' hr => ?_
  refine l_env (.string (bs (rep a 48 ++ [46] ++ rep b 48))) w hr rfl rfl rfl (fun a hr => x_bin (hr.arg rfl) (hr.arg rfl) (run_cat _ _ _ _ (by simp [la, lb]; omega) _)) fun a' hr => ?_
  refine l_env (.string (bs (rep a 48 ++ [46] ++ rep b 48 ++ [69, 43]))) w hr rfl rfl rfl (fun a hr => x_bin (hr.arg rfl) (hr.arg rfl) (run_cat _ _ _ _ (by simp [la, lb]; omega) _)) fun a' hr => ?_
  refine l_env (.int .i64 (c : Int)) w hr rfl rfl rfl (fun a hr => x_move (hr.arg rfl)) fun a' hr => ?_
  refine l_times 48 c (by omega) hr rfl rfl rfl (fun a hr => x_callv (args2 (hr.arg rfl) (hr.arg rfl)) (enter18 _ _)) fun a' hr => ?_
  refine l_env (.string (bs (expText a b c))) w hr rfl rfl rfl (fun a hr => x_bin (hr.arg rfl) (hr.arg rfl) (run_cat _ _ _ _ (by simp [la, lb, lc]; omega) _)) fun a' hr => ?_
  refine l_env (.string (bs (expText a b c))) w hr rfl rfl rfl (fun a hr => x_assign (hr.arg rfl)) fun a' hr => wpList_nil (wp_ret ?_)
  refine ⟨hr.defers, _, results_tmp rfl _ _ _, ?_, rfl⟩
  rw [Array.getD_eq_getD_getElem?, hr.spot 6 _ rfl]
  rfl
end Go.Nfp
