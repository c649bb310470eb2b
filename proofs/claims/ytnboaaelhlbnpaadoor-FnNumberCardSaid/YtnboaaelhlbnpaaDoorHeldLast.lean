/- A region that draws its order: its first operations only read cells of which a condition S on the world tells what they hold; behind them the order is forced; S is kept by every operation but the very last, which waits for all others. One walk of the lexical order serves every order. -/
import Derived.OrdersHeld
import Derived.StillTail
import Derived.Deep.Quiet
namespace Go.Nfp
open Go

section
variable {P : Program} {ops : Array Oper} {Q : Exit → Act → World → Prop} {md : Region.Mode} {S : World → Prop} {z : Nat}

def wpAnyZ (P : Program) (md : Region.Mode) (ops : Array Oper) (Q : Exit → Act → World → Prop) (S : World → Prop) (z : Nat) : Nat → Array Bool → Act → World → Prop
  | 0, listed, a, w => Region.ready md ops listed = [] ∧ Q .normal a w
  | fuel + 1, listed, a, w =>
    (Region.ready md ops listed = [] → Q .normal a w) ∧
    ∀ i ∈ Region.ready md ops listed, wpOp P ops Q i (fun a' w' => (i ≠ z → S w') ∧ wpAnyZ P md ops Q S z fuel (listed.setIfInBounds i true) a' w') a w

theorem wpAny_of_Z : ∀ (fuel : Nat) (listed : Array Bool) (a : Act) (w : World), wpAnyZ P md ops Q S z fuel listed a w → wpAny P md ops Q fuel listed a w
  | 0, _, _, _, h => h
  | fuel + 1, _, _, _, h => ⟨h.1, fun i hi => wpOp_mono (fun a' w' h' => wpAny_of_Z fuel _ a' w' h'.2) (h.2 i hi)⟩

theorem wpAnyZ_first {i : Nat} {oi : Oper} {v : Value} (hi : ops[i]? = some oi) (hsel : ∀ (j : Nat) (o : Oper) cs b, ops[j]? = some o → o.op ≠ .select cs b)
    (hQ : ∀ c a t v w, Q (.panic c) (a.put t v) w → Q (.panic c) a w) (hz : Region.waitsFor md ops z i = true) (hiz : i ≠ z) :
    ∀ (fuel : Nat) (listed : Array Bool) (a : Act) (w : World),
      (∀ j oj, ops[j]? = some oj → j ≠ i → listed.getD j true = false → (∀ e ∈ oj.after, Region.binds md e = true → e.on ≠ i) → oi.apart ops oj = true) →
      i ∈ Region.ready md ops listed → YieldsIf P ops S oi v a → S w →
      wpAnyZ P md ops Q S z fuel (listed.setIfInBounds i true) (a.put oi.dst v) w → wpAnyZ P md ops Q S z (fuel + 1) listed a w := by
  intro fuel
  induction fuel with
  | zero =>
    intro listed a w _ hr hy hS H
    refine ⟨fun h => (by rw [h] at hr; cases hr), fun j hj => ?_⟩
    by_cases hji : j = i
    · subst hji; exact hy.wpOp hi hS ⟨fun _ => hS, H⟩
    · have := ready_mono hj hji
      rw [H.1] at this
      cases this
  | succ fuel ih =>
    intro listed a w hfree hr hy hS H
    refine ⟨fun h => (by rw [h] at hr; cases hr), fun j hj => ?_⟩
    by_cases hji : j = i
    · subst hji; exact hy.wpOp hi hS ⟨fun _ => hS, H⟩
    · have h1 := H.2 j (ready_mono hj hji)
      obtain ⟨hjun, oj, hoj, hall⟩ := mem_ready.1 hj
      have hnot : ∀ e ∈ oj.after, Region.binds md e = true → e.on ≠ i := fun e he hb heq => by
        have h1 := hall e he hb
        have h0 := (mem_ready.1 hr).1
        rw [heq] at h1
        rcases Nat.lt_or_ge i listed.size with h' | h'
        · simp [h'] at h0 h1; rw [h0] at h1; cases h1
        · simp [Array.getElem?_eq_none h'] at h1
      have hjz : j ≠ z := fun hjz => by
        subst hjz
        obtain ⟨oz, hoz, e, he, hb, hon⟩ := Region.waitsFor_spec hz
        have : oz = oj := Option.some.inj (hoz.symm.trans hoj)
        subst this
        exact hnot e he hb hon
      have h2 := wpOp_putIf hoj (hfree j oj hoj hji hjun hnot) (fun cs b => hsel i oi cs b hi) (fun cs b => hsel j oj cs b hoj) (fun c a w => hQ c a oi.dst v w) hy h1
      have hfree' : ∀ k ok, ops[k]? = some ok → k ≠ i → (listed.setIfInBounds j true).getD k true = false →
          (∀ e ∈ ok.after, Region.binds md e = true → e.on ≠ i) → oi.apart ops ok = true := fun k ok hk hki hun hno => by
        refine hfree k ok hk hki ?_ hno
        by_cases hjk : j = k
        · subst hjk; exact hjun
        · rw [getD_set_ne true hjk] at hun; exact hun
      refine wpOp_mono (fun a' w' h3 => ⟨fun _ => h3.2.1 hjz, ih (listed.setIfInBounds j true) a' w' hfree' (ready_mono hr (Ne.symm hji)) h3.1 (h3.2.1 hjz) ?_⟩) h2
      rw [Array.setIfInBounds_comm _ _ hji]
      exact h3.2.2

/-- The forced tail: behind each operation but the last S is shown anew. -/
def tailZ (P : Program) (ops : Array Oper) (Q : Exit → Act → World → Prop) (S : World → Prop) : List Oper → Act → World → Prop
  | [], a, w => Q .normal a w
  | o :: rest, a, w =>
    if Region.wanted o (yielded ops a.tmps) then o.wp P a w (fun a' w' => (rest ≠ [] → S w') ∧ tailZ P ops Q S rest a' w') Q ∨ (o.asks P a w ∧ LetsOut Q)
    else (rest ≠ [] → S w) ∧ tailZ P ops Q S rest (a.put o.dst undef) w

theorem wpAnyZ_of_seq : ∀ (l : List Oper) (k : Nat) (listed : Array Bool) (a : Act) (w : World), (∀ j, l[j]? = ops[k + j]?) → k + l.length = z + 1 →
    Region.seqB md ops l.length k listed = true → tailZ P ops Q S l a w → wpAnyZ P md ops Q S z l.length listed a w
  | [], k, listed, a, w, _, _, hB, h => ⟨by simpa [Region.seqB] using hB, h⟩
  | o :: l, k, listed, a, w, hl, hk, hB, h => by
    have h0 : ops[k]? = some o := by simpa using (hl 0).symm
    simp only [List.length_cons, Region.seqB, Bool.and_eq_true, decide_eq_true_eq] at hB
    refine ⟨fun h1 => (by rw [hB.1] at h1; cases h1), fun i hi => ?_⟩
    rw [hB.1] at hi
    have hik : i = k := by simpa using hi
    subst hik
    have hw : wpOp P ops Q i (fun a' w' => (l ≠ [] → S w') ∧ tailZ P ops Q S l a' w') a w := by unfold wpOp; simp only [h0]; exact h
    refine wpOp_mono (fun a' w' h' => ⟨fun hne => h'.1 fun hl0 => hne ?_, wpAnyZ_of_seq l (i + 1) _ a' w' (fun j => by have := hl (j + 1); simpa [Nat.add_assoc, Nat.add_comm 1 j] using this) (by simp only [List.length_cons] at hk; omega) hB.2 h'.2⟩) hw
    subst hl0
    simp only [List.length_cons, List.length_nil] at hk
    omega

/-- An operation that yields a value, or halts: it calls nothing and stores nothing. -/
def valB (o : Oper) : Bool :=
  match o.op with
  | .move _ | .assign _ | .nilCheck _ | .fieldAddr _ _ _ | .indexAddr _ _ _ | .load _ _ | .binOp _ _ _ _ _ => true
  | .call c => (match c.callee with
    | .builtin .len => true
    | _ => false)
  | _ => false

theorem valB_value {o : Oper} (h : valB o = true) {ρ : Operand → Value} {w w' : World} {n : Next} (hr : (execOp ρ o).run P w = .ok n w') : ∃ v, n = .value v := by
  obtain ⟨dst, op, ty, pos, aft, gd⟩ := o
  have key : ∀ s : Sem Value, (do pure (Next.value (← s)) : Sem Next).run P w = .ok n w' → ∃ v, n = .value v := by
    intro s hs
    rw [Sem.run_bind] at hs
    cases h2 : s.run P w with
    | ok a w2 =>
      rw [h2] at hs
      simp only [Result.andThen_ok, Sem.run_pure, Result.ok.injEq] at hs
      exact ⟨a, hs.1.symm⟩
    | halt x w2 => rw [h2] at hs; cases hs
  unfold valB at h
  unfold execOp at hr
  cases op <;> simp only [Bool.false_eq_true] at h
  case move x => simp only [Sem.run_pure, Result.ok.injEq] at hr; exact ⟨_, hr.1.symm⟩
  case assign x => simp only [Sem.run_pure, Result.ok.injEq] at hr; exact ⟨_, hr.1.symm⟩
  case load t x => exact key _ hr
  case fieldAddr t x f => exact key _ hr
  case indexAddr t x i => exact key _ hr
  case binOp b t x y u => exact key _ hr
  case call c =>
    split at h
    · rename_i hc
      simp only [resolve, hc, Sem.run_bind, Sem.run_pure, Result.andThen_ok, invoke, builtin] at hr
      have := key (Builtin.len_ c.argTypes ty (c.args.map ρ)) (by rw [Sem.run_bind]; exact hr)
      exact this
    · cases h
  case nilCheck x =>
    simp only at hr
    split at hr
    · simp [runtimePanic] at hr
    · simp [runtimePanic] at hr
    · simp [runtimePanic] at hr
    · split at hr
      · simp [runtimePanic] at hr
      · simp only [Sem.run_bind, run_program, Result.andThen_ok] at hr
        cases h3 : (nilAhead (P.types.size + Made.depth) _ _ _).run P w with
        | ok a w2 =>
          rw [h3] at hr
          simp only [Result.andThen_ok] at hr
          split at hr
          · simp at hr
          · simp only [Sem.run_pure, Result.ok.injEq] at hr; exact ⟨_, hr.1.symm⟩
        | halt y w2 => rw [h3] at hr; cases hr
      · simp only [Sem.run_pure, Result.ok.injEq] at hr; exact ⟨_, hr.1.symm⟩
    · simp only [Sem.run_pure, Result.ok.injEq] at hr; exact ⟨_, hr.1.symm⟩

theorem yieldsIf_of_quiet {o : Oper} {a : Act} {v : Value} (hv : valB o = true) (hw : Region.wanted o (yielded ops a.tmps) = true) (h : ∀ w, S w → o.quietAt P a S w v) : YieldsIf P ops S o v a := by
  refine .inl ⟨hw, fun w hS => ?_⟩
  have h1 := h w hS
  unfold Oper.quietAt at h1
  cases hr : (execOp a.eval o).run P w with
  | ok n w' =>
    rw [hr] at h1
    obtain ⟨u, rfl⟩ := valB_value hv hr
    obtain ⟨h2, h3⟩ := h1
    rw [h2, h3]
  | halt x w' => rw [hr] at h1; cases h1

theorem wpAnyZ_lex {g : Nat} {L : List Oper} {n : Nat} (hs : Region.noSelect ops = true) (hQ : ∀ c a t v w, Q (.panic c) (a.put t v) w → Q (.panic c) a w)
    (hg : L.length = g) (hL : ∀ j, L[j]? = ops[n + j]?) (hz : n + g = z + 1) (hwait : ∀ i, i < n → Region.waitsFor md ops z i = true ∧ i ≠ z) {w : World} (hS : S w) :
    ∀ (l : List Oper) (k : Nat) (listed : Array Bool) (a : Act), (∀ j, j < l.length → l[j]? = ops[k + j]?) → k + l.length = n →
    Region.lexHead md ops g l.length k listed = true → (∀ o ∈ l, valB o = true) →
    wpQuiet P ops S (fun a' => tailZ P ops Q S L a' w) l a → wpAnyZ P md ops Q S z (l.length + g) listed a w
  | [], k, listed, a, _, hk, hB, _, h => by
    have hkn : k = n := by simpa using hk
    subst hkn
    rw [List.length_nil, Nat.zero_add, ← hg]
    refine wpAnyZ_of_seq L k listed a w hL (by omega) ?_ h
    rw [hg]
    simpa [Region.lexHead] using hB
  | o :: l, k, listed, a, hl, hk, hB, hv, h => by
    have h0 : ops[k]? = some o := by simpa using (hl 0 (by simp)).symm
    simp only [List.length_cons, Region.lexHead, Bool.and_eq_true] at hB
    obtain ⟨⟨hr, hf⟩, hB'⟩ := hB
    have hkn : k < n := by simp only [List.length_cons] at hk; omega
    have hr' : k ∈ Region.ready md ops listed := by simpa using hr
    have hvo := hv o (List.mem_cons_self ..)
    have hvl : ∀ o' ∈ l, valB o' = true := fun o' ho' => hv o' (List.mem_cons_of_mem _ ho')
    have hrec : ∀ a', wpQuiet P ops S (fun a' => tailZ P ops Q S L a' w) l a' → wpAnyZ P md ops Q S z (l.length + g) (listed.setIfInBounds k true) a' w := fun a' h' =>
      wpAnyZ_lex hs hQ hg hL hz hwait hS l (k + 1) _ a' (fun j hj => by have := hl (j + 1) (by simp; omega); simpa [Nat.add_assoc, Nat.add_comm 1 j] using this)
        (by simp only [List.length_cons] at hk; omega) hB' hvl h'
    rw [show (o :: l).length + g = (l.length + g) + 1 by simp only [List.length_cons]; omega]
    unfold wpQuiet at h
    by_cases hw : Region.wanted o (yielded ops a.tmps) = true
    · rw [if_pos hw] at h
      obtain ⟨v, hq, hn⟩ := h
      exact wpAnyZ_first h0 (Region.noSelect_spec hs) hQ (hwait k hkn).1 (hwait k hkn).2 _ listed a w (Region.free_spec h0 hf) hr' (yieldsIf_of_quiet hvo hw hq) hS (hrec _ hn)
    · rw [if_neg hw] at h
      exact wpAnyZ_first h0 (Region.noSelect_spec hs) hQ (hwait k hkn).1 (hwait k hkn).2 _ listed a w (Region.free_spec h0 hf) hr' (.inr ⟨by simpa using hw, rfl⟩) hS (hrec _ h)

def heldB (md : Region.Mode) (ops : Array Oper) (n : Nat) : Bool :=
  Region.noSelect ops && decide (n < ops.size) && Region.lexHead md ops (ops.size - n) n 0 (Array.replicate ops.size false) &&
  (List.range n).all (fun i => Region.waitsFor md ops (ops.size - 1) i) && (ops.toList.take n).all valB

/-- THE LAW: a region of n operations that only read cells under S, then a forced tail. -/
theorem wp_region_heldlast {id : Nat} {a : Act} {w : World} {l : List Oper} (n : Nat) (S : World → Prop) (hm : P.follows .mixedOrders = true) (hB : heldB .any l.toArray n = true)
    (hQ : ∀ c a t v w, Q (.panic c) (a.put t v) w → Q (.panic c) a w) (hS : S { w with drawn := w.drawn + 1 })
    (h : wpQuiet P l.toArray S (fun a' => tailZ P l.toArray Q S (l.drop n) a' { w with drawn := w.drawn + 1 }) (l.take n) a) : (Code.region id l.toArray true).wp P Q a w := by
  simp only [heldB, Bool.and_eq_true, decide_eq_true_eq] at hB
  obtain ⟨⟨⟨⟨hsel, hn⟩, hlex⟩, hwait⟩, hval⟩ := hB
  have hn' : n < l.length := by simpa using hn
  have htl : (l.take n).length = n := by simp; omega
  have hdl : (l.drop n).length = l.toArray.size - n := by simp
  refine wp_region_any hm (wpAny_of_Z (S := S) (z := l.toArray.size - 1) _ _ _ _ ?_)
  have H := wpAnyZ_lex (md := .any) (g := l.toArray.size - n) (L := l.drop n) (n := n) (z := l.toArray.size - 1) hsel hQ hdl (fun j => by simp [List.getElem?_drop]) (by omega)
    (fun i hi => ⟨by simpa using List.all_eq_true.1 hwait i (List.mem_range.2 hi), by omega⟩) hS (l.take n) 0 (Array.replicate l.toArray.size false) a (fun j hj => by
      have hj' : j < n := by rw [htl] at hj; exact hj
      simp [hj']) (by simpa using htl) (by rw [htl]; exact hlex) (fun o ho => by simpa using List.all_eq_true.1 hval o (by simpa using ho)) h
  rw [htl, show n + (l.toArray.size - n) = l.toArray.size by omega] at H
  exact H
end
end Go.Nfp
