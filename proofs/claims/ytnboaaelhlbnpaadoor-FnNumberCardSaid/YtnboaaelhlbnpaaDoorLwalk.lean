/- One step of a region's list on a frame that is known by the values of some slots; the small callees fTokens and reset. -/
import Derived.Test.YtnboaaelhlbnpaaDoorVenv
import Derived.Test.YtnboaaelhlbnpaaDoorPs
namespace Go.Nfp
open Go Go.Proofs Go.RowKit

section
variable {ops : Array Oper} {a : Act} {o : Oper} {rest : List Oper} {w w' : World} {N t : Nat} {env : VEnv} {Q : Exit → Act → World → Prop}

theorem l_env (v : Value) (w' : World) (hr : VRel N env a) (hg : o.guard = none) (hd : o.dst = some t) (ht : Nat.blt t N = true) (hrun : ∀ a, VRel N env a → (execOp a.eval o).run P w = .ok (.value v) w')
    (h : ∀ a', VRel N ((t, v) :: env) a' → wpList P ops Q rest a' w') : wpList P ops Q (o :: rest) a w := by
  unfold wpList
  rw [if_pos (by simp [Region.wanted, hg])]
  refine .inl ?_
  unfold Oper.wp
  rw [hrun a hr, Oper.upon_value, hd]
  exact h _ (hr.put ht v)

theorem l_done (w' : World) (hr : VRel N env a) (hg : o.guard = none) (hd : o.dst = none) (hrun : ∀ a, VRel N env a → (execOp a.eval o).run P w = .ok .skip w') (h : ∀ a', VRel N env a' → wpList P ops Q rest a' w') : wpList P ops Q (o :: rest) a w := by
  unfold wpList
  rw [if_pos (by simp [Region.wanted, hg])]
  refine .inl ?_
  unfold Oper.wp
  rw [hrun a hr, Oper.upon_skip, hd]
  exact h _ hr

theorem l_call (f : Nat) (args : Array Value) (v : Value) {Pw : World → Prop} (hr : VRel N env a) (hg : o.guard = none) (hd : o.dst = some t) (ht : Nat.blt t N = true) (hrun : ∀ a, VRel N env a → (execOp a.eval o).run P w = .ok (.enter f args) w)
    (hc : Calls P f args w fun e w' => e = .returned v ∧ Pw w') (h : ∀ a' w', VRel N ((t, v) :: env) a' → Pw w' → wpList P ops Q rest a' w') : wpList P ops Q (o :: rest) a w := by
  unfold wpList
  rw [if_pos (by simp [Region.wanted, hg])]
  refine .inl ?_
  unfold Oper.wp
  rw [hrun a hr, Oper.upon_enter]
  refine hc.mono fun e w' ⟨he, hw'⟩ => ?_
  subst he
  simp only [hd]
  exact h _ _ (hr.put ht v) hw'

variable {dst : Option Tmp} {ty : TypeId} {pos : String} {aft : Array Edge} {gd : Option (Nat × Bool)} {x y : Operand}
theorem x_callv {f : Nat} {tys : Array TypeId} {args : Array Operand} {vs : Array Value} (hv : args.map a.eval = vs) (henter : (callFunc f vs).run P w = .ok (.enter f vs) w) :
    (execOp a.eval ⟨dst, .call { callee := .value (.func f), args := args, argTypes := tys }, ty, pos, aft, gd⟩).run P w = .ok (.enter f vs) w := by
  simp [execOp, resolve, invoke, Act.eval, hv, Deferred.ofValue, henter]
end

theorem agg_toks : aggB tToks = some 3 := by kernel_rfl
theorem size_toks : sizeB tToks = some 3 := by kernel_rfl

theorem load_toks {w : World} {b k : Nat} {v t u : Value} (h0 : w.cell? ⟨b, k, none⟩ = some v) (h1 : w.cell? ⟨b, k + 1, none⟩ = some t) (h2 : w.cell? ⟨b, k + 2, none⟩ = some u) : (Instr.loadAt tToks (.pointer (some ⟨b, k, none⟩))).run P w = .ok (.agg #[v, t, u]) w := by
  refine aggB_load (ad := ⟨b, k, none⟩) agg_toks (cs := [v, t, u]) rfl (fun j z hz => ?_)
  match j, hz with
  | 0, hz => simp at hz; subst hz; simpa [Addr.add] using h0
  | 1, hz => simp at hz; subst hz; simpa [Addr.add] using h1
  | 2, hz => simp at hz; subst hz; simpa [Addr.add] using h2
  | n + 3, hz => simp at hz

set_option maxRecDepth 100000 in
theorem fTokens_calls (w : World) : Calls Tryd.prog 36 #[] w fun e w' => e = .returned (.agg #[.int .i64 (-1), .int .i64 0, .slice none 0 0]) ∧ w.grownBy w' none := by
  go_enter Tryd.func36, Tryd.ntmps36
  go_wp2_with fail
  have h := heap_alloc_new w (.cells #[.int .i64 (-1), .int .i64 0, .slice none 0 0] 42)
  exact ⟨rfl, _, results_cell (T := tToks) rfl _ rfl (load_toks (cell_of_block h rfl) (cell_of_block h rfl) (cell_of_block h rfl)), rfl, World.grownBy_alloc w _ none⟩

set_option maxRecDepth 100000 in
theorem reset_calls (b : Nat) (v t u : Value) (w : World) (hb : w.heap[b]? = some (.cells #[v, t, u] tToks (0, 0))) :
    Calls Tryd.prog 37 #[.pointer (some ⟨b, 0, none⟩)] w fun e w' => e = .returned (.tuple #[]) ∧ w' = w.setCell ⟨b, 0, none⟩ (.int .i64 (-1)) := by
  have h0 : w.cell? ⟨b, 0, none⟩ = some v := cell_of_block hb rfl
  have f0 : w.frozen? ⟨b, 0, none⟩ = false := free_of_block hb
  go_enter Tryd.func37, Tryd.ntmps37
  go_wp2_with fail
  exact ⟨rfl, _, results_none rfl _ _ _, rfl, rfl⟩

theorem enter36 (w : World) (args : Array Value) : (callFunc 36 args).run P w = .ok (.enter 36 args) w := by kernel_rfl
theorem enter37 (w : World) (args : Array Value) : (callFunc 37 args).run P w = .ok (.enter 37 args) w := by kernel_rfl
end Go.Nfp
