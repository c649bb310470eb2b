/- A frame by the values of some of its slots, and one step of a region's head or tail on it. -/
import Derived.Test.YtnboaaelhlbnpaaDoorSteps
namespace Go.Nfp
open Go Go.Proofs

abbrev VEnv := List (Nat × Value)

def vfind : VEnv → Nat → Option Value
  | [], _ => none
  | (t, x) :: l, s => match Nat.beq t s with
    | true => some x
    | false => vfind l s

def varg (env : VEnv) : Operand → Option Value
  | .tmp t => vfind env t
  | .const v => some v
  | _ => none

structure VRel (N : Nat) (env : VEnv) (a : Act) : Prop where
  size : a.tmps.size = N
  defers : a.defers = []
  spot : ∀ t x, vfind env t = some x → a.tmps[t]? = some x

theorem VRel.arg {N : Nat} {env : VEnv} {a : Act} (hr : VRel N env a) {x : Operand} {v : Value} (h : varg env x = some v) : a.eval x = v := by
  cases x with
  | tmp t =>
    have h2 := hr.spot t v h
    simp only [Act.eval, Array.getD_eq_getD_getElem?, h2, Option.getD_some]
  | const c => simp only [varg, Option.some.injEq] at h; exact h
  | global g => cases h
  | func f => cases h

theorem VRel.put {N : Nat} {env : VEnv} {a : Act} (hr : VRel N env a) {t : Nat} (ht : Nat.blt t N = true) (v : Value) : VRel N ((t, v) :: env) (a.put (some t) v) := by
  have ht' : t < N := Nat.le_of_ble_eq_true ht
  refine ⟨by simp only [Act.put, Array.size_setIfInBounds]; exact hr.size, hr.defers, fun s x h => ?_⟩
  unfold vfind at h
  split at h
  · rename_i hb
    have hts : t = s := Nat.eq_of_beq_eq_true hb
    subst hts
    simp only [Option.some.injEq] at h
    subst h
    simp only [Act.put]
    rw [Array.getElem?_setIfInBounds_self_of_lt (by rw [hr.size]; exact ht')]
  · rename_i hb
    have hts : t ≠ s := Nat.ne_of_beq_eq_false hb
    simp only [Act.put]
    rw [Array.getElem?_setIfInBounds_ne hts]
    exact hr.spot s x h

theorem VRel.of {N : Nat} {a : Act} (hs : a.tmps.size = N) (hd : a.defers = []) : VRel N [] a := ⟨hs, hd, fun _ _ h => by cases h⟩
theorem VRel.also {N : Nat} {env : VEnv} {a : Act} (hr : VRel N env a) {t : Nat} {v : Value} (h : a.tmps[t]? = some v) : VRel N ((t, v) :: env) a := by
  refine ⟨hr.size, hr.defers, fun s x hx => ?_⟩
  unfold vfind at hx
  split at hx
  · rename_i hb
    have hts : t = s := Nat.eq_of_beq_eq_true hb
    subst hts
    simp only [Option.some.injEq] at hx
    subst hx
    exact h
  · exact hr.spot s x hx

section
variable {ops : Array Oper} {S : World → Prop} {Lq : Act → Prop} {a : Act} {o : Oper} {rest : List Oper} {w w' : World} {N t : Nat} {env : VEnv} {Q : Exit → Act → World → Prop}

theorem q_env (v : Value) (hr : VRel N env a) (hg : o.guard = none) (hd : o.dst = some t) (ht : Nat.blt t N = true)
    (hrun : ∀ a W, VRel N env a → S W → (execOp a.eval o).run P W = .ok (.value v) W) (h : ∀ a', VRel N ((t, v) :: env) a' → wpQuiet P ops S Lq rest a') : wpQuiet P ops S Lq (o :: rest) a :=
  q_val hg (fun W hW => hrun a W hr hW) (h _ (by rw [hd]; exact hr.put ht v))

theorem t_env (v : Value) (w' : World) (hr : VRel N env a) (hg : o.guard = none) (hd : o.dst = some t) (ht : Nat.blt t N = true) (hrun : ∀ a, VRel N env a → (execOp a.eval o).run P w = .ok (.value v) w') (hS : rest ≠ [] → S w')
    (h : ∀ a', VRel N ((t, v) :: env) a' → tailZ P ops Q S rest a' w') : tailZ P ops Q S (o :: rest) a w :=
  t_val hg (hrun a hr) hS (h _ (by rw [hd]; exact hr.put ht v))
theorem t_done (w' : World) (hr : VRel N env a) (hg : o.guard = none) (hd : o.dst = none) (hrun : ∀ a, VRel N env a → (execOp a.eval o).run P w = .ok .skip w') (hS : rest ≠ [] → S w')
    (h : ∀ a', VRel N env a' → tailZ P ops Q S rest a' w') : tailZ P ops Q S (o :: rest) a w :=
  t_skip hg (hrun a hr) hS (by rw [hd]; exact h _ hr)
end
end Go.Nfp
