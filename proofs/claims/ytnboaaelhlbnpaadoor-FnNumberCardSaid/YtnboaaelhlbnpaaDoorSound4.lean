/- A part of the walk of the parser: Sound4: it proves facts about the code that the laws reach; no condition beyond those of its theorems. -/
import Derived.Test.YtnboaaelhlbnpaaDoorSound3
namespace Go.Nfp
open Go Go.Proofs

section
variable {bp o0 : Nat} {R : St → World → Prop}

/-- What an operation does in the world w: a value that only reads; a call; a store. -/
def OpDoes (bp o0 : Nat) (R : St → World → Prop) (o : Oper) (a : Act) (w : World) (st : St) : Res → Prop
  | .val v st' => v.ok ∧ ((st' = st ∧ (execOp a.eval o).run P w = .ok (.value (v.conc bp o0)) w) ∨
      ∃ f args, (execOp a.eval o).run P w = .ok (.enter f args) w ∧ Calls P f args w (fun e w' => e = .returned (v.conc bp o0) ∧ R st' w'))
  | .done st' => ∃ w', (execOp a.eval o).run P w = .ok .skip w' ∧ R st' w'

theorem len_run (w : World) (l : List UInt8) (ty : TypeId) : (Builtin.len_ #[tStr] ty #[.string (bs l)]).run P w = .ok (.int .i64 l.length) w := by
  have hu : P.underlying tStr = some .string := by kernel_rfl
  simp [Builtin.len_, underlying, hu, goInt, bs_size]

variable (hp : Par bp o0 R) {env : Env} {a : Act} (hr : Rel bp o0 env a) {st : St} {w : World} (hw : R st w)
include hp hr hw in
theorem opC_sound {o : Oper} {r : Res} (h : opC env st o.op = some r) : OpDoes bp o0 R o a w st r := by
  obtain ⟨dst, op, ty, pos, aft, gd⟩ := o
  simp only at h
  unfold opC at h
  split at h
  · rename_i T ad x
    split at h
    · rename_i k hk
      split at h
      · rename_i v hv
        split at h
        · rename_i st' hst
          simp only [Option.some.injEq] at h
          subst h
          have e : a.eval ad = .pointer (some ⟨bp, k, none⟩) := (hr.arg hk).1
          obtain ⟨e', ok'⟩ := hr.arg hv
          obtain ⟨w', h1, h2⟩ := hp.store hw hst ok'
          refine ⟨w', ?_, h2⟩
          simp only [execOp, e, e', Sem.run_bind, h1, Result.andThen_ok, Sem.run_pure]
        · cases h
      · cases h
    · cases h
  · rename_i c
    split at h
    · rename_i f hc
      split at h
      · cases h
      · rename_i xs hxs
        obtain ⟨e, ok⟩ := hr.argList hxs
        have eargs : c.args.map a.eval = (xs.map (AV.conc bp o0)).toArray := by
          apply Array.toList_inj.1
          simpa using e
        have hen := execOp_enter (ρ := a.eval) (o := ⟨dst, .call c, ty, pos, aft, gd⟩) (c := c) (f := f) rfl hc rfl w
        rw [eargs] at hen
        split at h
        · rename_i v hv
          simp only [Option.some.injEq] at h
          subst h
          obtain ⟨h1, h2⟩ := hp.qcall hw hv ok
          exact ⟨h1, .inr ⟨f, _, hen.trans (hp.enterQ w _ hv), h2⟩⟩
        · split at h
          · rename_i v st' hv
            simp only [Option.some.injEq] at h
            subst h
            obtain ⟨h1, h2⟩ := hp.ecall hw hv ok
            exact ⟨h1, .inr ⟨f, _, hen.trans (hp.enterE w _ hv), h2⟩⟩
          · cases h
    · rename_i hc
      split at h
      · rename_i l b hxs
        split at h
        · rename_i t hts
          obtain ⟨ht, h⟩ := cond_some h
          have ht' := Nat.eq_of_beq_eq_true ht
          subst ht'
          have h := Option.some.inj h
          subst h
          obtain ⟨e, ok⟩ := hr.argList hxs
          have eargs : c.args.map a.eval = #[.string (bs l)] := by
            apply Array.toList_inj.1
            simpa [AV.conc] using e
          have ets : c.argTypes = #[tStr] := Array.toList_inj.1 hts
          refine ⟨trivial, .inl ⟨rfl, ?_⟩⟩
          have hl := len_run w l ty
          simp only [execOp, resolve, hc, invoke, builtin, eargs, ets, Sem.run_bind, Sem.run_pure, Result.andThen_ok, hl, AV.conc]
        · cases h
      · cases h
    · cases h
  · split at h
    · rename_i v hv
      simp only [Option.some.injEq] at h
      subst h
      obtain ⟨h1, h2⟩ := pureOp_sound hp hr hw (o := ⟨dst, op, ty, pos, aft, gd⟩) hv
      exact ⟨h2, .inl ⟨rfl, h1⟩⟩
    · cases h

include hr in
theorem wantedC_sound {ops : List Oper} {o : Oper} {b : Bool} (h : wantedC ops env o = some b) : Region.wanted o (yielded ops.toArray a.tmps) = b := by
  unfold wantedC at h
  unfold Region.wanted
  split at h
  · rename_i hg
    simp only [Option.some.injEq] at h
    subst h
    rw [hg]
  · rename_i j want hg
    rw [hg]
    simp only
    split at h
    · cases h
    · rename_i oj hj
      split at h
      · cases h
      · rename_i t ht
        have hy : ∀ v, a.tmps[t]? = some v → yielded ops.toArray a.tmps j = (match v with | .bool b => some b | _ => none) := by
          intro v hv
          unfold yielded
          simp only [List.getElem?_toArray, hj, Option.bind_some, ht, hv]
          cases v <;> rfl
        split at h
        · rename_i b' hb'
          simp only [Option.some.injEq] at h
          subst h
          rw [hy _ (hr.spot _ _ hb').1]
          simp only [AV.conc]
          cases b' <;> cases want <;> rfl
        · rename_i hb'
          simp only [Option.some.injEq] at h
          subst h
          rw [hy _ (hr.spot _ _ hb').1]
          simp only [AV.conc, undef]
          cases want <;> rfl
        · cases h

end
end Go.Nfp
