/- The walks of spec.ExponentTokens and of laws.FnExponent. -/
import Derived.Test.YtnboaaelhlbnpaaDoorSame
namespace Go.Nfp
open Go Go.Proofs Go.RowKit

/-- A list of the specification's tokens is read. -/
def TokSee (it : Value) (toks : Toks) (w : World) : Prop :=
  ∃ g icap, it = .slice (some ⟨g, 0, none⟩) toks.length icap ∧ ∀ j u, (specCells toks)[j]? = some u → w.cell? ⟨g, 0 + j, none⟩ = some u

def expToks (a b c : Nat) : Toks := [(rep a 48, zeroT), ([46], dotT), (rep b 48, zeroT), ([69, 43], expT), (rep c 48, zeroT)]

theorem builds_5 (w : World) (c0 c1 c2 c3 c4 c5 c6 c7 c8 c9 : ByteArray) : (Instr.buildSlice 30 5 #[(0, .agg #[.string c0, .string c1]), (1, .agg #[.string c2, .string c3]), (2, .agg #[.string c4, .string c5]), (3, .agg #[.string c6, .string c7]), (4, .agg #[.string c8, .string c9])]).run P w = .ok (.slice (some ⟨w.heap.size, 0, none⟩) 5 5) (w.alloc (.cells #[.string c0, .string c1, .string c2, .string c3, .string c4, .string c5, .string c6, .string c7, .string c8, .string c9] 62)) := by kernel_rfl

theorem x_build5 {a : Act} {v : Value} {W W' : World} {dst : Option Tmp} {ty : TypeId} {pos : String} {aft : Array Edge} {gd : Option (Nat × Bool)} {x0 x1 x2 x3 x4 : Operand} {T n : Nat} {u0 u1 u2 u3 u4 : Value}
    (h0 : a.eval x0 = u0) (h1 : a.eval x1 = u1) (h2 : a.eval x2 = u2) (h3 : a.eval x3 = u3) (h4 : a.eval x4 = u4) (h : (Instr.buildSlice T n #[(0, u0), (1, u1), (2, u2), (3, u3), (4, u4)]).run P W = .ok v W') :
    (execOp a.eval ⟨dst, .buildSlice T n #[(0, x0), (1, x1), (2, x2), (3, x3), (4, x4)], ty, pos, aft, gd⟩).run P W = .ok (.value v) W' := by simp [execOp, h0, h1, h2, h3, h4, h]

theorem exptoks_calls (a b c : Nat) (ha : a ≤ 8) (hb : b ≤ 8) (hc : c ≤ 8) (w : World) : Calls Tryd.prog 10 #[.int .i64 (a : Int), .int .i64 (b : Int), .int .i64 (c : Int)] w fun e w' => ∃ it, e = .returned it ∧ w.grownBy w' none ∧ TokSee it (expToks a b c) w' := by
  refine calls_of_wp Tryd.func10 rfl ?_
  have hr : VRel 19 [(2, .int .i64 (c : Int)), (1, .int .i64 (b : Int)), (0, .int .i64 (a : Int))] { tmps := #[.int .i64 (a : Int), .int .i64 (b : Int), .int .i64 (c : Int)] ++ Array.replicate (Tryd.f10.ntmps - (#[.int .i64 (a : Int), .int .i64 (b : Int), .int .i64 (c : Int)] : Array Value).size) undef, defers := [] } := by
    refine (((VRel.of ?_ rfl).also ?_).also ?_).also ?_
    · rw [Tryd.ntmps10]
      simp
    · simp
    · simp
    · simp
  generalize ({ tmps := _, defers := [] } : Act) = a0 at hr ⊢
  refine wp_seq (wp_region_lit (l_env (.slice none 0 0) w hr rfl rfl rfl (fun a hr => x_assign (hr.arg rfl)) fun a' hr => wpList_nil ?_))
  refine wp_seq (wp_region_lit ?_)
  refine l_env (.int .i64 (a : Int)) w hr rfl rfl rfl (fun a hr => x_move (hr.arg rfl)) fun a' hr => ?_
  refine l_times 48 a (by omega) hr rfl rfl rfl (fun a hr => x_callv (args2 (hr.arg rfl) (hr.arg rfl)) (enter18 _ _)) fun a' hr => ?_
  refine l_env (.agg #[.string (bs zeroT), .string (bs (rep a 48))]) w hr rfl rfl rfl (fun a hr => x_build2 (hr.arg rfl) (hr.arg rfl) (build_62 w _ _)) fun a' hr => ?_
  refine l_env (.agg #[.string (bs dotT), .string (bs [46])]) w hr rfl rfl rfl (fun a hr => x_build2 (hr.arg rfl) (hr.arg rfl) (build_62 w _ _)) fun a' hr => ?_
  refine l_env (.int .i64 (b : Int)) w hr rfl rfl rfl (fun a hr => x_move (hr.arg rfl)) fun a' hr => ?_
  refine l_times 48 b (by omega) hr rfl rfl rfl (fun a hr => x_callv (args2 (hr.arg rfl) (hr.arg rfl)) (enter18 _ _)) fun a' hr => ?_
  refine l_env (.agg #[.string (bs zeroT), .string (bs (rep b 48))]) w hr rfl rfl rfl (fun a hr => x_build2 (hr.arg rfl) (hr.arg rfl) (build_62 w _ _)) fun a' hr => ?_
  refine l_env (.agg #[.string (bs expT), .string (bs [69, 43])]) w hr rfl rfl rfl (fun a hr => x_build2 (hr.arg rfl) (hr.arg rfl) (build_62 w _ _)) fun a' hr => ?_
  refine l_env (.int .i64 (c : Int)) w hr rfl rfl rfl (fun a hr => x_move (hr.arg rfl)) fun a' hr => ?_
  refine l_times 48 c (by omega) hr rfl rfl rfl (fun a hr => x_callv (args2 (hr.arg rfl) (hr.arg rfl)) (enter18 _ _)) fun a' hr => ?_
  refine l_env (.agg #[.string (bs zeroT), .string (bs (rep c 48))]) w hr rfl rfl rfl (fun a hr => x_build2 (hr.arg rfl) (hr.arg rfl) (build_62 w _ _)) fun a' hr => ?_
  refine l_env _ _ hr rfl rfl rfl (fun a hr => x_build5 (hr.arg rfl) (hr.arg rfl) (hr.arg rfl) (hr.arg rfl) (hr.arg rfl) (builds_5 w _ _ _ _ _ _ _ _ _ _)) fun a' hr => ?_
  refine l_env _ _ hr rfl rfl rfl (fun a hr => x_assign (hr.arg rfl)) fun a' hr => wpList_nil (wp_ret ?_)
  have hb5 := heap_alloc_new w (.cells (specCells (expToks a b c)).toArray 62)
  refine ⟨hr.defers, _, results_tmp rfl _ _ _, .slice (some ⟨w.heap.size, 0, none⟩) 5 5, ?_, World.grownBy_alloc w _ none, w.heap.size, 5, rfl, fun j u hu => ?_⟩
  · rw [Array.getD_eq_getD_getElem?, hr.spot 6 _ rfl]
    rfl
  · have := cell_of_block (k := 0 + j) (v := u) hb5 (by rw [Nat.zero_add]; simpa using hu)
    exact this

/-- The list of one section that the law builds. -/
theorem sees_built (it : Value) (toks : Toks) (w : World) (h : TokSee it toks w) : ∃ ob cap g icap, Sees1 (.slice (some ⟨w.heap.size, 0, none⟩) 1 1) toks ob cap g icap (w.alloc (.cells #[posV, it] 33)) := by
  obtain ⟨g, icap, rfl, hc⟩ := h
  have hb := heap_alloc_new w (.cells #[posV, .slice (some ⟨g, 0, none⟩) toks.length icap] 33)
  have hg := World.grownBy_alloc w (.cells #[posV, .slice (some ⟨g, 0, none⟩) toks.length icap] 33) none
  exact ⟨w.heap.size, 1, g, icap, rfl, cell_of_block hb rfl, cell_of_block hb rfl, fun j u hu => hg.cell (hc j u hu) (by simp)⟩

theorem enter5 (w : World) (args : Array Value) : (callFunc 5 args).run P w = .ok (.enter 5 args) w := by kernel_rfl
theorem enter6 (w : World) (args : Array Value) : (callFunc 6 args).run P w = .ok (.enter 6 args) w := by kernel_rfl
theorem enter7 (w : World) (args : Array Value) : (callFunc 7 args).run P w = .ok (.enter 7 args) w := by kernel_rfl
theorem enter8 (w : World) (args : Array Value) : (callFunc 8 args).run P w = .ok (.enter 8 args) w := by kernel_rfl
theorem enter9 (w : World) (args : Array Value) : (callFunc 9 args).run P w = .ok (.enter 9 args) w := by kernel_rfl
theorem enter10 (w : World) (args : Array Value) : (callFunc 10 args).run P w = .ok (.enter 10 args) w := by kernel_rfl

theorem grown_trans {w w1 w2 : World} (h1 : w.grownBy w1 none) (h2 : w1.grownBy w2 none) : w.grownBy w2 none :=
  ⟨h2.os.trans h1.os, h2.tape.trans h1.tape, h2.output.trans h1.output, Nat.le_trans h1.size h2.size, fun j hj hne => (h2.block j (Nat.lt_of_lt_of_le hj h1.size) hne).trans (h1.block j hj hne)⟩
theorem tab_grown {w w' : World} (h : Lib.TabIs P w "strings.asciiSpace" .u8 Lib.asciiSpaceTab) (hg : w.grownBy w' none) : Lib.TabIs P w' "strings.asciiSpace" .u8 Lib.asciiSpaceTab := tab_kept h fun h0 => hg.block 0 h0 (by simp)
theorem grown_refl (w : World) : w.grownBy w none := ⟨rfl, rfl, rfl, Nat.le_refl _, fun _ _ _ => rfl⟩

set_option maxRecDepth 100000 in
set_option maxHeartbeats 1000000 in
theorem fnexp_out (a b c : Int) (hout : a < 1 ∨ 8 < a ∨ b < 1 ∨ 8 < b ∨ c < 1 ∨ 4 < c) (w : World) (htab : Lib.TabIs P w "strings.asciiSpace" .u8 Lib.asciiSpaceTab) :
    Calls Tryd.prog 3 #[.int .i64 a, .int .i64 b, .int .i64 c] w fun e w' => e = .returned (.bool true) ∧ w.grownBy w' none := by
  have hw := works_calls w htab
  go_enter Tryd.func3, Tryd.ntmps3
  by_cases h1 : a < 1
  · go_wp2_with (go_at_call 5; refine hw.mono ?_; rintro e w1 ⟨rfl, hg⟩)
    go_ret
    exact ⟨rfl, hg⟩
  by_cases h2 : (8 : Int) < a
  · go_wp2_with (go_at_call 5; refine hw.mono ?_; rintro e w1 ⟨rfl, hg⟩)
    go_ret
    exact ⟨rfl, hg⟩
  by_cases h3 : b < 1
  · go_wp2_with (go_at_call 5; refine hw.mono ?_; rintro e w1 ⟨rfl, hg⟩)
    go_ret
    exact ⟨rfl, hg⟩
  by_cases h4 : (8 : Int) < b
  · go_wp2_with (go_at_call 5; refine hw.mono ?_; rintro e w1 ⟨rfl, hg⟩)
    go_ret
    exact ⟨rfl, hg⟩
  by_cases h5 : c < 1
  · go_wp2_with (go_at_call 5; refine hw.mono ?_; rintro e w1 ⟨rfl, hg⟩)
    go_ret
    exact ⟨rfl, hg⟩
  have h6 : (4 : Int) < c := by omega
  go_wp2_with (go_at_call 5; refine hw.mono ?_; rintro e w1 ⟨rfl, hg⟩)
  go_ret
  exact ⟨rfl, hg⟩

set_option maxRecDepth 100000 in
set_option maxHeartbeats 1000000 in
theorem fnexp_in (a b c : Nat) (ha : 1 ≤ a ∧ a ≤ 8) (hb : 1 ≤ b ∧ b ≤ 8) (hc : 1 ≤ c ∧ c ≤ 4) (hR : Reads (expText a b c) (expToks a b c)) (w : World) (htab : Lib.TabIs P w "strings.asciiSpace" .u8 Lib.asciiSpaceTab) :
    Calls Tryd.prog 3 #[.int .i64 (a : Int), .int .i64 (b : Int), .int .i64 (c : Int)] w fun e w' => e = .returned (.bool true) ∧ w.grownBy w' none := by
  have hP := iparse_calls (expText a b c) (expToks a b c) hR (by simp [expToks]) (by simp [expToks]) w htab
  have hT := exptext_calls a b c (by omega) (by omega) (by omega) w
  have i1 : ¬ (a : Int) < 1 := by omega
  have i2 : ¬ (8 : Int) < a := by omega
  have i3 : ¬ (b : Int) < 1 := by omega
  have i4 : ¬ (8 : Int) < b := by omega
  have i5 : ¬ (c : Int) < 1 := by omega
  have i6 : ¬ (4 : Int) < c := by omega
  go_enter Tryd.func3, Tryd.ntmps3
  go_wp2_with (go_at_call 7; refine hT.mono ?_; rintro e w1 ⟨rfl, hw1⟩; rw [hw1]; clear hw1 w1)
  refine hP.mono ?_
  rintro e w1 ⟨l, rfl, hO⟩
  have hS := sections_calls l (expToks a b c) w.heap.size (by simp [expToks]) (by simp [expToks]) w1 hO.out
  have hg1 := hO.grown
  go_wp2_with fail
  refine hS.mono ?_
  rintro e w2 ⟨l2, rfl, hg2, hI⟩
  have hK := exptoks_calls a b c (by omega) (by omega) (by omega) w2
  go_wp2_with fail
  refine hK.mono ?_
  rintro e w3 ⟨it, rfl, hg3, hK3⟩
  have hs := sees_built it (expToks a b c) w3 hK3
  have hl3 : ∃ ob cap g icap, Sees1 l2 (expToks a b c) ob cap g icap (w3.alloc (.cells #[posV, it] 33)) := by
    obtain ⟨ob, cap, g, icap, h⟩ := hI.sees (by simp [expToks])
    exact ⟨ob, cap, g, icap, (h.grown hg3).grown (World.grownBy_alloc w3 _ none)⟩
  have hE := same_calls l2 (.slice (some ⟨w3.heap.size, 0, none⟩) 1 1) (expToks a b c) (by simp [expToks]) (w3.alloc (.cells #[posV, it] 33)) hl3 hs
  obtain ⟨g, icap, rfl, -⟩ := hK3
  go_wp2_with fail
  refine hE.mono ?_
  rintro e w4 ⟨rfl, hg4⟩
  have hg : w.grownBy w4 none := grown_trans hg1 (grown_trans hg2 (grown_trans hg3 (grown_trans (World.grownBy_alloc w3 _ none) hg4)))
  have hw := works_calls w4 (tab_grown htab hg)
  go_wp2_with fail
  refine hw.mono ?_
  rintro e w5 ⟨rfl, hg5⟩
  go_wp2_with fail
  go_ret
  exact ⟨rfl, grown_trans hg hg5⟩
end Go.Nfp
