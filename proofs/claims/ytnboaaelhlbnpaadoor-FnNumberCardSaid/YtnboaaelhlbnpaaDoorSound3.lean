/- A part of the walk of the parser: Sound3: it proves facts about the code that the laws reach; no condition beyond those of its theorems. -/
import Derived.Test.YtnboaaelhlbnpaaDoorSound2
namespace Go.Nfp
open Go Go.Proofs

theorem build_none (w : World) : (Instr.build tTok #[]).run P w = .ok (.agg #[.string ⟨#[]⟩, .string ⟨#[]⟩, .slice none 0 0]) w := by kernel_rfl
theorem build_one (w : World) (t : ByteArray) : (Instr.build tTok #[(1, .string t)]).run P w = .ok (.agg #[.string ⟨#[]⟩, .string t, .slice none 0 0]) w := by kernel_rfl
theorem build_two (w : World) (v t : ByteArray) : (Instr.build tTok #[(1, .string t), (0, .string v)]).run P w = .ok (.agg #[.string v, .string t, .slice none 0 0]) w := by kernel_rfl

theorem buildC_cases {env : Env} {v : AV} : ∀ {pl : List (Nat × Operand)}, buildC env pl = some v →
    (pl = [] ∧ v = .tok [] 0 []) ∨ (∃ y t b, pl = [(1, y)] ∧ arg env y = some (.str t b) ∧ v = .tok [] 0 t) ∨
    (∃ y x t b v' b', pl = [(1, y), (0, x)] ∧ arg env y = some (.str t b) ∧ arg env x = some (.str v' b') ∧ v = .tok v' b' t) := by
  intro pl h
  unfold buildC at h
  split at h
  · simp only [Option.some.injEq] at h
    exact .inl ⟨rfl, h.symm⟩
  · rename_i y
    split at h
    · rename_i t b ht
      obtain ⟨-, h⟩ := cond_some h
      simp only [Option.some.injEq] at h
      exact .inr (.inl ⟨y, t, b, rfl, ht, h.symm⟩)
    · cases h
  · rename_i y x
    split at h
    · rename_i v' b' t b hv ht
      obtain ⟨-, h⟩ := cond_some h
      simp only [Option.some.injEq] at h
      exact .inr (.inr ⟨y, x, t, b, v', b', rfl, ht, hv, h.symm⟩)
    · cases h
  · cases h

theorem execOp_enter {ρ : Operand → Value} {o : Oper} {c : Call} {f : FuncId} (ho : o.op = .call c) (hc : c.callee = .value (.func f)) (hf : ρ (.func f) = .func (.func f) #[] #[]) (w : World) :
    (execOp ρ o).run P w = (callFunc f (c.args.map ρ)).run P w := by
  unfold execOp
  rw [ho]
  simp [resolve, hc, hf, Deferred.ofValue, invoke]

section
variable {bp o0 : Nat} {R : St → World → Prop} (hp : Par bp o0 R) {env : Env} {a : Act} (hr : Rel bp o0 env a) {st : St} {w : World} (hw : R st w)

include hp hr hw in
theorem pureOp_sound {o : Oper} {v : AV} (h : pureOp env st o.op = some v) : (execOp a.eval o).run P w = .ok (.value (v.conc bp o0)) w ∧ v.ok := by
  obtain ⟨dst, op, ty, pos, aft, gd⟩ := o
  simp only at h
  unfold pureOp at h
  split at h
  · rename_i x
    obtain ⟨e, ok⟩ := hr.arg h
    exact ⟨by simp [execOp, e], ok⟩
  · rename_i x
    obtain ⟨e, ok⟩ := hr.arg h
    exact ⟨by simp [execOp, e], ok⟩
  · rename_i x
    split at h
    · rename_i k hk
      simp only [Option.some.injEq] at h
      subst h
      obtain ⟨e, ok⟩ := hr.arg hk
      exact ⟨by simp [execOp, e, AV.conc], trivial⟩
    · cases h
  · rename_i T x f
    split at h
    · rename_i k hk
      split at h
      · rename_i c hc
        simp only [Option.some.injEq] at h
        subst h
        obtain ⟨e, ok⟩ := hr.arg hk
        have := fieldB_run (foff_fieldB hc) bp k w
        exact ⟨by simp [execOp, e, AV.conc, this], trivial⟩
      · cases h
    · cases h
  · rename_i T x
    split at h
    · rename_i k hk
      obtain ⟨e, ok⟩ := hr.arg hk
      obtain ⟨h1, h2⟩ := loadC_sound hp hw h
      exact ⟨by simp only [execOp, e, AV.conc, Sem.run_bind, h1, Result.andThen_ok, Sem.run_pure], h2⟩
    · cases h
  · rename_i op T x y T'
    split at h
    · rename_i u hu
      split at h
      · rename_i u' hu'
        obtain ⟨e, ok⟩ := hr.arg hu
        obtain ⟨e', ok'⟩ := hr.arg hu'
        obtain ⟨h1, h2⟩ := binC_sound hp (w := w) h ok ok' x y
        refine ⟨?_, h2⟩
        simp only [execOp, e, e']
        rw [Sem.run_bind, h1]
        rfl
      · cases h
    · cases h
  · rename_i T x
    split at h
    · rename_i b hb
      simp only [Option.some.injEq] at h
      subst h
      obtain ⟨e, ok⟩ := hr.arg hb
      exact ⟨by simp [execOp, e, AV.conc, Op.unary], trivial⟩
    · cases h
  · rename_i c x y
    split at h
    · rename_i hc
      obtain ⟨e, -⟩ := hr.arg hc
      obtain ⟨e', ok'⟩ := hr.arg h
      exact ⟨by simp [execOp, e, e', AV.conc, asBool], ok'⟩
    · rename_i hc
      obtain ⟨e, -⟩ := hr.arg hc
      obtain ⟨e', ok'⟩ := hr.arg h
      exact ⟨by simp [execOp, e, e', AV.conc, asBool], ok'⟩
    · cases h
  · rename_i T parts
    obtain ⟨hT, h⟩ := cond_some h
    have hT' := Nat.eq_of_beq_eq_true hT
    subst hT'
    rcases buildC_cases h with ⟨hl, rfl⟩ | ⟨y, t, b, hl, ht, rfl⟩ | ⟨y, x, t, b, v', b', hl, ht, hv, rfl⟩
    · have hp0 : parts = #[] := Array.toList_inj.1 hl
      subst hp0
      have := build_none w
      exact ⟨by simp [execOp, AV.conc, this, bs], Nat.zero_le _, by omega⟩
    · have hp0 : parts = #[(1, y)] := Array.toList_inj.1 hl
      subst hp0
      obtain ⟨e, ok⟩ := hr.arg ht
      have := build_one w (bs t)
      exact ⟨by simp [execOp, AV.conc, e, this]; rfl, Nat.zero_le _, by omega⟩
    · have hp0 : parts = #[(1, y), (0, x)] := Array.toList_inj.1 hl
      subst hp0
      obtain ⟨e, ok⟩ := hr.arg hv
      obtain ⟨e', ok'⟩ := hr.arg ht
      have := build_two w (bs v') (bs t)
      exact ⟨by simp [execOp, AV.conc, e, e', this], ok⟩
  · cases h

end
end Go.Nfp
