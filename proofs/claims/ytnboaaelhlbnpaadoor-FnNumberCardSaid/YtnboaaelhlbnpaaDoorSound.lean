/- A part of the walk of the parser: Sound: it proves facts about the code that the laws reach; no condition beyond those of its theorems. -/
import Derived.Test.YtnboaaelhlbnpaaDoorExec
import Derived.WalkKit
import Derived.KernelRfl
namespace Go.Nfp
open Go Go.Proofs

noncomputable abbrev P : Program := Tryd.prog

/-- What a frame must hold for the executor's environment. -/
structure Rel (bp o0 : Nat) (env : Env) (a : Act) : Prop where
  size : a.tmps.size = nSlots
  defers : a.defers = []
  spot : ∀ t x, find env t = some x → a.tmps[t]? = some (x.conc bp o0) ∧ x.ok

theorem bs_data (s : ByteArray) : bs s.data.toList = s := by
  cases s; simp [bs]

theorem ofConst_sound {v : Value} {x : AV} {bp o0 : Nat} (h : ofConst v = some x) : v = x.conc bp o0 ∧ x.ok := by
  unfold ofConst at h
  split at h
  · rename_i s
    cases hb : Nat.ble s.data.toList.length 8192 with
    | false => rw [hb] at h; cases h
    | true =>
      rw [hb] at h
      simp only [cond_true, Option.some.injEq] at h
      subst h
      refine ⟨by simp only [AV.conc, bs_data], ?_⟩
      exact ⟨Nat.le_refl _, Nat.le_of_ble_eq_true hb⟩
  · simp only [Option.some.injEq] at h; subst h; exact ⟨rfl, trivial⟩
  · simp only [Option.some.injEq] at h; subst h; exact ⟨rfl, trivial⟩
  · simp only [Option.some.injEq] at h; subst h; exact ⟨rfl, trivial⟩
  · cases h

theorem Rel.arg {bp o0 : Nat} {env : Env} {a : Act} (hr : Rel bp o0 env a) {x : Operand} {v : AV} (h : arg env x = some v) : a.eval x = v.conc bp o0 ∧ v.ok := by
  cases x with
  | tmp t =>
    have h2 := hr.spot t v h
    refine ⟨?_, h2.2⟩
    simp only [Act.eval, Array.getD_eq_getD_getElem?, h2.1, Option.getD_some]
  | const c => exact ofConst_sound h
  | global g => cases h
  | func f => cases h

theorem Rel.argList {bp o0 : Nat} {env : Env} {a : Act} (hr : Rel bp o0 env a) : ∀ {xs : List Operand} {vs : List AV}, argList env xs = some vs → xs.map a.eval = vs.map (AV.conc bp o0) ∧ ∀ v ∈ vs, v.ok
  | [], vs, h => by
    simp only [Nfp.argList, Option.some.injEq] at h
    subst h
    exact ⟨rfl, fun _ h => by cases h⟩
  | x :: xs, vs, h => by
    unfold Nfp.argList at h
    split at h
    · cases h
    · rename_i v hv
      split at h
      · cases h
      · rename_i ws hws
        simp only [Option.some.injEq] at h
        subst h
        obtain ⟨h1, h2⟩ := hr.arg hv
        obtain ⟨h3, h4⟩ := hr.argList hws
        refine ⟨by simp only [List.map_cons, h1, h3], fun u hu => ?_⟩
        rcases List.mem_cons.1 hu with rfl | hu
        · exact h2
        · exact h4 u hu

theorem Rel.put {bp o0 : Nat} {env : Env} {a : Act} (hr : Rel bp o0 env a) {t : Nat} (ht : t < nSlots) {v : AV} (hv : v.ok) : Rel bp o0 ((t, v) :: env) (a.put (some t) (v.conc bp o0)) := by
  refine ⟨by simp only [Act.put, Array.size_setIfInBounds]; exact hr.size, hr.defers, fun s x h => ?_⟩
  unfold find at h
  split at h
  · rename_i hb
    have hts : t = s := Nat.eq_of_beq_eq_true hb
    subst hts
    simp only [Option.some.injEq] at h
    subst h
    refine ⟨?_, hv⟩
    simp only [Act.put]
    rw [Array.getElem?_setIfInBounds_self_of_lt (by rw [hr.size]; exact ht)]
  · rename_i hb
    have hts : t ≠ s := Nat.ne_of_beq_eq_false hb
    have h2 := hr.spot s x h
    refine ⟨?_, h2.2⟩
    simp only [Act.put]
    rw [Array.getElem?_setIfInBounds_ne hts]
    exact h2.1


/-! ### Closed facts on the program's tables -/
/-- Where field f of struct type T lies, if the field has cells. -/
noncomputable def fieldB (T f : Nat) : Option Nat :=
  match P.underlying T with
  | some (.struct fs) => (match fs[f]? with
    | some fl => (match P.info? fl.type with
      | some i => (match i.size with
        | 0 => none
        | _ + 1 => some fl.offset)
      | none => none)
    | none => none)
  | _ => none

theorem fieldB_run {T f c : Nat} (h : fieldB T f = some c) (b k : Nat) (w : World) :
    (Instr.fieldAt T (.pointer (some ⟨b, k, none⟩)) f).run P w = .ok (.pointer (some ⟨b, k + c, none⟩)) w := by
  unfold fieldB at h
  split at h
  · rename_i fs hu
    split at h
    · rename_i fl hf
      split at h
      · rename_i i hi
        split at h
        · cases h
        · rename_i n hn
          simp only [Option.some.injEq] at h
          subst h
          simp [Instr.fieldAt, underlying, hu, hf, Instr.sureAddr, fieldPlace, sizeOf, typeInfo, hi, hn, Addr.add]
      · cases h
    · cases h
  · cases h

theorem fP0 : fieldB tParser 0 = some 0 := by kernel_rfl
theorem fP1 : fieldB tParser 1 = some 1 := by kernel_rfl
theorem fP2 : fieldB tParser 2 = some 2 := by kernel_rfl
theorem fP3 : fieldB tParser 3 = some 3 := by kernel_rfl
theorem fP4 : fieldB tParser 4 = some 4 := by kernel_rfl
theorem fP5 : fieldB tParser 5 = some 5 := by kernel_rfl
theorem fP6 : fieldB tParser 6 = some 6 := by kernel_rfl
theorem fP7 : fieldB tParser 7 = some 9 := by kernel_rfl
theorem fT0 : fieldB tTok 0 = some 0 := by kernel_rfl
theorem fT1 : fieldB tTok 1 = some 1 := by kernel_rfl
theorem fT2 : fieldB tTok 2 = some 2 := by kernel_rfl
theorem fS0 : fieldB tToks 0 = some 0 := by kernel_rfl
theorem fS1 : fieldB tToks 1 = some 1 := by kernel_rfl
theorem fS2 : fieldB tToks 2 = some 2 := by kernel_rfl

theorem foff_fieldB {T f c : Nat} (h : foff T f = some c) : fieldB T f = some c := by
  unfold foff at h
  cases h1 : Nat.beq T tParser with
  | true =>
    rw [h1] at h
    have h9 := Nat.eq_of_beq_eq_true h1
    subst h9
    simp only [cond_true] at h
    match f, h with
    | 0, h => simp only [Nat.ble, cond_true, Option.some.injEq] at h; subst h; exact fP0
    | 1, h => simp only [Nat.ble, cond_true, Option.some.injEq] at h; subst h; exact fP1
    | 2, h => simp only [Nat.ble, cond_true, Option.some.injEq] at h; subst h; exact fP2
    | 3, h => simp only [Nat.ble, cond_true, Option.some.injEq] at h; subst h; exact fP3
    | 4, h => simp only [Nat.ble, cond_true, Option.some.injEq] at h; subst h; exact fP4
    | 5, h => simp only [Nat.ble, cond_true, Option.some.injEq] at h; subst h; exact fP5
    | 6, h => simp only [Nat.ble, cond_true, Option.some.injEq] at h; subst h; exact fP6
    | 7, h => simp only [Nat.ble, Nat.beq, cond_true, cond_false, Option.some.injEq] at h; subst h; exact fP7
    | n + 8, h => simp [Nat.ble, Nat.beq] at h
  | false =>
    rw [h1] at h
    simp only [cond_false] at h
    cases h2 : Nat.beq T tTok with
    | true =>
      rw [h2] at h
      have h9 := Nat.eq_of_beq_eq_true h2
      subst h9
      simp only [cond_true] at h
      match f, h with
      | 0, h => simp only [Nat.ble, cond_true, Option.some.injEq] at h; subst h; exact fT0
      | 1, h => simp only [Nat.ble, cond_true, Option.some.injEq] at h; subst h; exact fT1
      | 2, h => simp only [Nat.ble, cond_true, Option.some.injEq] at h; subst h; exact fT2
      | n + 3, h => simp [Nat.ble] at h
    | false =>
      rw [h2] at h
      simp only [cond_false] at h
      cases h3 : Nat.beq T tToks with
      | true =>
        rw [h3] at h
        have h9 := Nat.eq_of_beq_eq_true h3
        subst h9
        simp only [cond_true] at h
        match f, h with
        | 0, h => simp only [Nat.ble, cond_true, Option.some.injEq] at h; subst h; exact fS0
        | 1, h => simp only [Nat.ble, cond_true, Option.some.injEq] at h; subst h; exact fS1
        | 2, h => simp only [Nat.ble, cond_true, Option.some.injEq] at h; subst h; exact fS2
        | n + 3, h => simp [Nat.ble] at h
      | false => rw [h3] at h; cases h

/-- A type whose values are one cell, no struct and no array. -/
noncomputable def plainB (T : Nat) : Bool :=
  match P.underlying T with
  | some (.struct _) => false
  | some (.array _ _) => false
  | some _ => true
  | none => false

theorem plainB_load {T : Nat} (h : plainB T = true) {ad : Addr} {w : World} {v : Value} (hc : w.cell? ad = some v) :
    (Instr.loadAt T (.pointer (some ad))).run P w = .ok v w := by
  unfold plainB at h
  split at h
  · cases h
  · cases h
  · rename_i d h1 h2 hd
    have : (isAgg T).run P w = .ok false w := by
      simp only [isAgg, underlying, Sem.run_bind, run_program, Result.andThen_ok, hd]
      cases d <;> first | rfl | exact absurd rfl (h1 _) | exact absurd rfl (h2 _ _)
    simp [Instr.loadAt, Instr.sureAddr, loadVar, this, hc]
  · cases h

theorem plain_int : plainB tInt = true := by kernel_rfl
theorem plain_str : plainB tStr = true := by kernel_rfl
theorem plain_bool : plainB tBool = true := by kernel_rfl
theorem plain_parts : plainB tParts = true := by kernel_rfl

end Go.Nfp
