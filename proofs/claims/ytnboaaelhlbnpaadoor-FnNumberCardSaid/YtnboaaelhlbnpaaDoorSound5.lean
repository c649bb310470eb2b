/- A part of the walk of the parser: Sound5: it proves facts about the code that the laws reach; no condition beyond those of its theorems. -/
import Derived.Test.YtnboaaelhlbnpaaDoorSound4
namespace Go.Nfp
open Go Go.Proofs

theorem mixed : P.follows .mixedOrders = true := by kernel_rfl

section
variable {bp o0 : Nat} {R : St → World → Prop} (hp : Par bp o0 R)

/-- What stepC says, unfolded. -/
theorem stepC_cases {ops : List Oper} {env env' : Env} {st st' : St} {o : Oper} (h : stepC ops env st o = some (env', st')) :
    (wantedC ops env o = some true ∧ ((∃ v t, opC env st o.op = some (.val v st') ∧ o.dst = some t ∧ t < nSlots ∧ env' = (t, v) :: env) ∨
      (opC env st o.op = some (.done st') ∧ o.dst = none ∧ env' = env))) ∨
    (wantedC ops env o = some false ∧ ∃ t, o.dst = some t ∧ t < nSlots ∧ env' = (t, .junk) :: env ∧ st' = st) := by
  unfold stepC at h
  split at h
  · rename_i hwt
    refine .inl ⟨hwt, ?_⟩
    split at h
    · rename_i v st1 hop
      split at h
      · rename_i t ht
        obtain ⟨hlt, h⟩ := cond_some h
        simp only [Option.some.injEq, Prod.mk.injEq] at h
        obtain ⟨rfl, rfl⟩ := h
        exact .inl ⟨v, t, hop, ht, Nat.le_of_ble_eq_true hlt, rfl⟩
      · cases h
    · rename_i st1 hop
      split at h
      · cases h
      · rename_i hd
        simp only [Option.some.injEq, Prod.mk.injEq] at h
        obtain ⟨rfl, rfl⟩ := h
        exact .inr ⟨hop, hd, rfl⟩
    · cases h
  · rename_i hwt
    refine .inr ⟨hwt, ?_⟩
    split at h
    · rename_i t ht
      obtain ⟨hlt, h⟩ := cond_some h
      simp only [Option.some.injEq, Prod.mk.injEq] at h
      obtain ⟨rfl, rfl⟩ := h
      exact ⟨t, ht, Nat.le_of_ble_eq_true hlt, rfl, rfl⟩
    · cases h
  · cases h

include hp in
theorem step_list {ops : List Oper} {rest : List Oper} {env env' : Env} {st st' : St} {o : Oper} {Q : Exit → Act → World → Prop} {a : Act} {w : World}
    (h : stepC ops env st o = some (env', st')) (hr : Rel bp o0 env a) (hw : R st w)
    (hn : ∀ a' w', Rel bp o0 env' a' → R st' w' → wpList P ops.toArray Q rest a' w') : wpList P ops.toArray Q (o :: rest) a w := by
  rcases stepC_cases h with ⟨hwt, hres⟩ | ⟨hwt, t, ht, hlt, rfl, rfl⟩
  · have hwd := wantedC_sound hr hwt
    unfold wpList
    rw [if_pos hwd]
    refine .inl ?_
    unfold Oper.wp
    rcases hres with ⟨v, t, hop, ht, hlt, rfl⟩ | ⟨hop, hd, rfl⟩
    · obtain ⟨ok, ⟨rfl, hrun⟩ | ⟨f, args, hrun, hc⟩⟩ := opC_sound hp hr hw hop
      · rw [hrun, Oper.upon_value, ht]
        exact hn _ _ (hr.put hlt ok) hw
      · rw [hrun, Oper.upon_enter]
        refine hc.mono fun e w' ⟨he, hw'⟩ => ?_
        subst he
        simp only [ht]
        exact hn _ _ (hr.put hlt ok) hw'
    · obtain ⟨w', hrun, hw'⟩ := opC_sound hp hr hw hop
      rw [hrun, Oper.upon_skip, hd]
      exact hn _ _ hr hw'
  · have hwd := wantedC_sound hr hwt
    refine wpList_skip hwd ?_
    rw [ht]
    exact hn _ _ (hr.put (v := .junk) hlt trivial) hw

include hp in
theorem run_list {ops : List Oper} {Q : Exit → Act → World → Prop} : ∀ {l : List Oper} {env env' : Env} {st st' : St} {a : Act} {w : World},
    runL ops l env st = some (env', st') → Rel bp o0 env a → R st w → (∀ a' w', Rel bp o0 env' a' → R st' w' → Q .normal a' w') → wpList P ops.toArray Q l a w
  | [], env, env', st, st', a, w, h, hr, hw, hn => by
    simp only [runL, Option.some.injEq, Prod.mk.injEq] at h
    obtain ⟨rfl, rfl⟩ := h
    exact wpList_nil (hn _ _ hr hw)
  | o :: r, env, env', st, st', a, w, h, hr, hw, hn => by
    unfold runL at h
    split at h
    · rename_i env1 st1 h1
      exact step_list hp h1 hr hw fun a' w' hr' hw' => run_list h hr' hw' hn
    · cases h

theorem ecall_add {st st' : St} {f : Nat} {xs : List AV} {v : AV} (h : ecall st f xs = some (v, st')) : Nat.beq f fAdd = true := by
  unfold ecall at h
  split at h
  · have := (cond_some h).1
    simp only [Bool.and_eq_true] at this
    exact this.1
  · cases h

theorem quiet_val {env : Env} {st : St} {o : Oper} {r : Res} (hq : quietB o = true) (h : opC env st o.op = some r) : ∃ v, r = .val v st := by
  unfold quietB at hq
  unfold opC at h
  split at h
  · rename_i T ad x ho
    rw [ho] at hq
    cases hq
  · rename_i c ho
    rw [ho] at hq
    simp only at hq
    split at h
    · rename_i f hf
      rw [hf] at hq
      simp only at hq
      split at h
      · cases h
      · split at h
        · rename_i v hv
          exact ⟨v, (Option.some.inj h).symm⟩
        · split at h
          · rename_i v st' hv
            rw [ecall_add hv] at hq
            cases hq
          · cases h
    · split at h
      · split at h
        · obtain ⟨-, h⟩ := cond_some h
          exact ⟨_, (Option.some.inj h).symm⟩
        · cases h
      · cases h
    · cases h
  · split at h
    · rename_i v hv
      exact ⟨v, (Option.some.inj h).symm⟩
    · cases h

include hp in
theorem run_quiet {ops : List Oper} {Lq : Act → Prop} {st : St} {w0 : World} (hw0 : R st w0) : ∀ {l : List Oper} {env env' : Env} {st' : St} {a : Act},
    runL ops l env st = some (env', st') → (∀ o ∈ l, quietB o = true) → Rel bp o0 env a → (∀ a', Rel bp o0 env' a' → Lq a') → wpQuiet P ops.toArray (R st) Lq l a
  | [], env, env', st', a, h, hq, hr, hn => by
    simp only [runL, Option.some.injEq, Prod.mk.injEq] at h
    obtain ⟨rfl, rfl⟩ := h
    exact wpQuiet_nil (hn _ hr)
  | o :: r, env, env', st', a, h, hq, hr, hn => by
    unfold runL at h
    split at h
    · rename_i env1 st1 h1
      have hqo := hq o (List.mem_cons_self ..)
      have hqr : ∀ o' ∈ r, quietB o' = true := fun o' ho' => hq o' (List.mem_cons_of_mem _ ho')
      unfold wpQuiet
      rcases stepC_cases h1 with ⟨hwt, hres⟩ | ⟨hwt, t, ht, hlt, rfl, rfl⟩
      · have hwd := wantedC_sound hr hwt
        rw [if_pos hwd]
        rcases hres with ⟨v, t, hop, ht, hlt, rfl⟩ | ⟨hop, hd, rfl⟩
        · obtain ⟨v', hv'⟩ := quiet_val hqo hop
          simp only [Res.val.injEq] at hv'
          obtain ⟨rfl, rfl⟩ := hv'
          have ok := (opC_sound hp hr hw0 hop).1
          refine ⟨v.conc bp o0, fun w hw => ?_, ?_⟩
          · unfold Oper.quietAt
            obtain ⟨-, ⟨-, hrun⟩ | ⟨f, args, hrun, hc⟩⟩ := opC_sound hp hr hw hop
            · rw [hrun]; exact ⟨rfl, rfl⟩
            · rw [hrun]; exact ⟨rfl, hc⟩
          · rw [ht]
            exact run_quiet hw0 h hqr (hr.put hlt ok) hn
        · obtain ⟨v', hv'⟩ := quiet_val hqo hop
          cases hv'
      · have hwd := wantedC_sound hr hwt
        rw [if_neg (by rw [hwd]; exact Bool.false_ne_true), ht]
        exact run_quiet hw0 h hqr (hr.put (v := .junk) hlt trivial) hn
    · cases h

theorem run_quiet_st {ops : List Oper} : ∀ {l : List Oper} {env env' : Env} {st st' : St},
    runL ops l env st = some (env', st') → (∀ o ∈ l, quietB o = true) → st' = st
  | [], env, env', st, st', h, _ => by
    simp only [runL, Option.some.injEq, Prod.mk.injEq] at h
    exact h.2.symm
  | o :: r, env, env', st, st', h, hq => by
    unfold runL at h
    split at h
    · rename_i env1 st1 h1
      have hqo := hq o (List.mem_cons_self ..)
      have h2 := run_quiet_st h fun o' ho' => hq o' (List.mem_cons_of_mem _ ho')
      rcases stepC_cases h1 with ⟨-, ⟨v, t, hop, -⟩ | ⟨hop, -⟩⟩ | ⟨-, t, -, -, -, rfl⟩
      · obtain ⟨v', hv'⟩ := quiet_val hqo hop
        simp only [Res.val.injEq] at hv'
        rw [h2, hv'.2]
      · obtain ⟨v', hv'⟩ := quiet_val hqo hop
        cases hv'
      · exact h2
    · cases h

theorem runL_append {ops : List Oper} : ∀ {l1 l2 : List Oper} {env : Env} {st : St} {r : Env × St}, runL ops (l1 ++ l2) env st = some r →
    ∃ env1 st1, runL ops l1 env st = some (env1, st1) ∧ runL ops l2 env1 st1 = some r
  | [], l2, env, st, r, h => ⟨env, st, rfl, h⟩
  | o :: l1, l2, env, st, r, h => by
    rw [List.cons_append] at h
    unfold runL at h
    split at h
    · rename_i env1 st1 h1
      obtain ⟨e2, s2, h2, h3⟩ := runL_append h
      refine ⟨e2, s2, ?_, h3⟩
      unfold runL
      rw [h1]
      exact h2
    · cases h

theorem headLen_quiet : ∀ (l : List Oper), ∀ o ∈ l.take (headLen l), quietB o = true
  | [], o, h => by cases h
  | x :: r, o, h => by
    unfold headLen at h
    cases hx : quietB x with
    | true =>
      rw [hx] at h
      simp only [cond_true, List.take_succ_cons, List.mem_cons] at h
      rcases h with rfl | h
      · exact hx
      · exact headLen_quiet r o h
    | false =>
      rw [hx] at h
      simp at h

include hp in
theorem region_sound {id : Nat} {ops : Array Oper} {draw : Bool} {env env' : Env} {st st' : St} {Q : Exit → Act → World → Prop} {a : Act} {w : World}
    (h : regionC ops.toList draw env st = some (env', st')) (hr : Rel bp o0 env a) (hw : R st w)
    (hn : ∀ a' w', Rel bp o0 env' a' → R st' w' → Q .normal a' w') : (Code.region id ops draw).wp P Q a w := by
  obtain ⟨l, rfl⟩ : ∃ l : List Oper, ops = l.toArray := ⟨ops.toList, by simp⟩
  unfold regionC at h
  cases draw with
  | false => exact wp_region_lit (run_list hp h hr hw hn)
  | true =>
    simp only at h
    have hd : R st { w with drawn := w.drawn + 1 } := hp.drew hw
    cases hb : Nat.beq (headLen l) l.length with
    | true =>
      rw [hb] at h
      simp only [cond_true] at h
      obtain ⟨hlex, h⟩ := cond_some h
      have hlen := Nat.eq_of_beq_eq_true hb
      have hq : ∀ o ∈ l, quietB o = true := by
        have := headLen_quiet l
        rwa [hlen, List.take_length] at this
      have hst := run_quiet_st h hq
      subst hst
      refine wp_region_quiet (C := R st') mixed hlex hd ?_
      exact run_quiet hp hd h hq hr fun a' hr' w' hw' => hn a' w' hr' hw'
    | false =>
      rw [hb] at h
      simp only [cond_false] at h
      obtain ⟨hlex, h⟩ := cond_some h
      rw [← List.take_append_drop (headLen l) l] at h
      obtain ⟨env1, st1, h1, h2⟩ := runL_append h
      rw [List.take_append_drop] at h1 h2
      have hq := headLen_quiet l
      have hst := run_quiet_st h1 hq
      subst hst
      refine wp_region_quiet_tail (C := R st1) (headLen l) mixed hlex hd ?_
      exact run_quiet hp hd h1 hq hr fun a' hr' w' hw' => run_list hp h2 hr' hw' hn

include hp in
theorem runC_sound : ∀ {c : Code} {env env' : Env} {st st' : St} {e : Ex} {Q : Exit → Act → World → Prop} {a : Act} {w : World},
    runC c env st = some (e, env', st') → Rel bp o0 env a → R st w → (∀ a' w', Rel bp o0 env' a' → R st' w' → Q e.toExit a' w') → c.wp P Q a w := by
  intro c
  induction c with
  | skip =>
    intro env env' st st' e Q a w h hr hw hn
    simp only [runC, Option.some.injEq, Prod.mk.injEq] at h
    obtain ⟨rfl, rfl, rfl⟩ := h
    exact wp_skip (hn _ _ hr hw)
  | region id ops draw =>
    intro env env' st st' e Q a w h hr hw hn
    unfold runC at h
    split at h
    · rename_i env1 st1 h1
      simp only [Option.some.injEq, Prod.mk.injEq] at h
      obtain ⟨rfl, rfl, rfl⟩ := h
      exact region_sound hp h1 hr hw hn
    · cases h
  | seq x y ihx ihy =>
    intro env env' st st' e Q a w h hr hw hn
    unfold runC at h
    refine wp_seq ?_
    split at h
    · rename_i env1 st1 h1
      exact ihx h1 hr hw fun a' w' hr' hw' => ihy h hr' hw' hn
    · rename_i hx
      cases e with
      | normal => exact absurd h (hx _ _)
      | exit i => exact ihx h hr hw fun a' w' hr' hw' => hn a' w' hr' hw'
  | cond c x y ihx ihy =>
    intro env env' st st' e Q a w h hr hw hn
    unfold runC at h
    split at h
    · rename_i hc
      exact wp_cond_true (hr.arg hc).1 (ihx h hr hw hn)
    · rename_i hc
      exact wp_cond_false (hr.arg hc).1 (ihy h hr hw hn)
    · cases h
  | block i c ih =>
    intro env env' st st' e Q a w h hr hw hn
    unfold runC at h
    refine wp_block ?_
    split at h
    · rename_i j env1 st1 h1
      cases hb : Nat.beq j i with
      | true =>
        rw [hb] at h
        simp only [cond_true, Option.some.injEq, Prod.mk.injEq] at h
        obtain ⟨rfl, rfl, rfl⟩ := h
        have hji := Nat.eq_of_beq_eq_true hb
        subst hji
        refine ih h1 hr hw fun a' w' hr' hw' => ?_
        simp only [Ex.toExit, Exit.inBlock, if_true]
        exact hn a' w' hr' hw'
      | false =>
        rw [hb] at h
        simp only [cond_false, Option.some.injEq, Prod.mk.injEq] at h
        obtain ⟨rfl, rfl, rfl⟩ := h
        have hji := Nat.ne_of_beq_eq_false hb
        refine ih h1 hr hw fun a' w' hr' hw' => ?_
        simp only [Ex.toExit, Exit.inBlock]
        rw [if_neg hji]
        exact hn a' w' hr' hw'
    · rename_i hx
      cases e with
      | normal => exact ih h hr hw fun a' w' hr' hw' => hn a' w' hr' hw'
      | exit j => exact absurd h (hx _ _ _)
  | exit i =>
    intro env env' st st' e Q a w h hr hw hn
    simp only [runC, Option.some.injEq, Prod.mk.injEq] at h
    obtain ⟨rfl, rfl, rfl⟩ := h
    exact wp_exit (hn _ _ hr hw)
  | _ =>
    intro env env' st st' e Q a w h hr hw hn
    unfold runC at h
    cases h

end
end Go.Nfp
