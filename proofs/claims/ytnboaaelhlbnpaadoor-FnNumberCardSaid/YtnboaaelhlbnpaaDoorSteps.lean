/- A part of the walk of the parser: Steps: it proves facts about the code that the laws reach; no condition beyond those of its theorems. -/
import Derived.Test.YtnboaaelhlbnpaaDoorSound
import Derived.Test.YtnboaaelhlbnpaaDoorHeldLast
namespace Go.Nfp
open Go Go.Proofs

section
variable {ops : Array Oper} {S : World → Prop} {Lq : Act → Prop} {a : Act} {o : Oper} {rest : List Oper} {v : Value} {W : World}

theorem q_val (hg : o.guard = none) (hrun : ∀ W, S W → (execOp a.eval o).run P W = .ok (.value v) W) (h : wpQuiet P ops S Lq rest (a.put o.dst v)) : wpQuiet P ops S Lq (o :: rest) a := by
  unfold wpQuiet
  rw [if_pos (by simp [Region.wanted, hg])]
  exact ⟨v, fun w hw => by unfold Oper.quietAt; rw [hrun w hw]; exact ⟨rfl, rfl⟩, h⟩

variable {dst : Option Tmp} {ty : TypeId} {pos : String} {aft : Array Edge} {gd : Option (Nat × Bool)} {x y : Operand}

theorem x_move (hx : a.eval x = v) : (execOp a.eval ⟨dst, .move x, ty, pos, aft, gd⟩).run P W = .ok (.value v) W := by simp [execOp, hx]
theorem x_nil {ad : Addr} (hx : a.eval x = .pointer (some ad)) : (execOp a.eval ⟨dst, .nilCheck x, ty, pos, aft, gd⟩).run P W = .ok (.value (.pointer (some ad))) W := by simp [execOp, hx]
theorem x_field {T f c b k : Nat} (hB : fieldB T f = some c) (hx : a.eval x = .pointer (some ⟨b, k, none⟩)) :
    (execOp a.eval ⟨dst, .fieldAddr T x f, ty, pos, aft, gd⟩).run P W = .ok (.value (.pointer (some ⟨b, k + c, none⟩))) W := by
  have := fieldB_run hB b k W
  simp [execOp, hx, this]
theorem x_load {T : Nat} {ad : Addr} (hT : plainB T = true) (hx : a.eval x = .pointer (some ad)) (hc : W.cell? ad = some v) :
    (execOp a.eval ⟨dst, .load T x, ty, pos, aft, gd⟩).run P W = .ok (.value v) W := by
  have := plainB_load hT hc
  simp only [execOp, hx, Sem.run_bind, this, Result.andThen_ok, Sem.run_pure]
theorem x_bin {op : BinOp} {T T' : Nat} {u u' : Value} (hx : a.eval x = u) (hy : a.eval y = u') (h : (do eqGuard op T x y u u'; binOp op T u u' : Sem Value).run P W = .ok v W) :
    (execOp a.eval ⟨dst, .binOp op T x y T', ty, pos, aft, gd⟩).run P W = .ok (.value v) W := by
  simp only [execOp, hx, hy]
  rw [Sem.run_bind, h]
  rfl
end

/-- A type of slices whose elements have cells, and how many. -/
noncomputable def sliceB (T : Nat) : Option Nat :=
  match P.underlying T with
  | some (.slice e) => (match P.info? e with
    | some i => some i.size
    | none => none)
  | _ => none

section
variable {a : Act} {v : Value} {W : World} {dst : Option Tmp} {ty : TypeId} {pos : String} {aft : Array Edge} {gd : Option (Nat × Bool)} {x y : Operand}

theorem x_index {T sz b k n c i : Nat} (hB : sliceB T = some sz) (hx : a.eval x = .slice (some ⟨b, k, none⟩) n c) (hy : a.eval y = .int .i64 i) (hi : i < n) :
    (execOp a.eval ⟨dst, .indexAddr T x y, ty, pos, aft, gd⟩).run P W = .ok (.value (.pointer (some ⟨b, k + i * sz, none⟩))) W := by
  unfold sliceB at hB
  split at hB
  · rename_i e hu
    split at hB
    · rename_i inf hinf
      simp only [Option.some.injEq] at hB
      subst hB
      have hi' : (0 : Int) ≤ (i : Int) ∧ (i : Int) < (n : Int) := by omega
      simp [execOp, hx, hy, Instr.indexAt, asIntOf, underlying, hu, hi, sizeOf, typeInfo, hinf, Addr.add]
    · cases hB
  · cases hB

theorem x_len {T sz n c : Nat} {ad : Option Addr} (hB : sliceB T = some sz) (hx : a.eval x = .slice ad n c) :
    (execOp a.eval ⟨dst, .call { callee := .builtin .len, args := #[x], argTypes := #[T] }, ty, pos, aft, gd⟩).run P W = .ok (.value (.int .i64 n)) W := by
  unfold sliceB at hB
  split at hB
  · rename_i e hu
    simp [execOp, resolve, invoke, builtin, hx, Builtin.len_, underlying, hu, goInt]
  · cases hB
end

/-- A struct type of n cells. -/
noncomputable def aggB (T : Nat) : Option Nat :=
  match P.underlying T with
  | some (.struct _) => (match P.info? T with
    | some i => some i.size
    | none => none)
  | _ => none

theorem aggB_load {T n : Nat} (hB : aggB T = some n) {ad : Addr} {cs : List Value} (hl : cs.length = n) {w : World} (hc : ∀ j v, cs[j]? = some v → w.cell? (ad.add j) = some v) :
    (Instr.loadAt T (.pointer (some ad))).run P w = .ok (.agg cs.toArray) w := by
  unfold aggB at hB
  split at hB
  · rename_i fs hu
    split at hB
    · rename_i i hi
      simp only [Option.some.injEq] at hB
      have h1 := run_loadCells_list (P := P) w ad cs hc
      simp [Instr.loadAt, Instr.sureAddr, loadVar, isAgg, underlying, hu, sizeOf, typeInfo, hi, hB, ← hl, h1]
    · cases hB
  · cases hB

theorem agg_tok : aggB tTok = some 3 := by kernel_rfl

section
variable {ops : Array Oper} {Q : Exit → Act → World → Prop} {S : World → Prop} {a : Act} {o : Oper} {rest : List Oper} {v : Value} {w w' : World}
theorem t_val (hg : o.guard = none) (hrun : (execOp a.eval o).run P w = .ok (.value v) w') (hS : rest ≠ [] → S w') (h : tailZ P ops Q S rest (a.put o.dst v) w') : tailZ P ops Q S (o :: rest) a w := by
  unfold tailZ
  rw [if_pos (by simp [Region.wanted, hg])]
  refine .inl ?_
  unfold Oper.wp
  rw [hrun]
  exact ⟨hS, h⟩
theorem t_skip (hg : o.guard = none) (hrun : (execOp a.eval o).run P w = .ok .skip w') (hS : rest ≠ [] → S w') (h : tailZ P ops Q S rest (a.put o.dst undef) w') : tailZ P ops Q S (o :: rest) a w := by
  unfold tailZ
  rw [if_pos (by simp [Region.wanted, hg])]
  refine .inl ?_
  unfold Oper.wp
  rw [hrun]
  exact ⟨hS, h⟩
variable {dst : Option Tmp} {ty : TypeId} {pos : String} {aft : Array Edge} {gd : Option (Nat × Bool)} {x y : Operand}
theorem x_append {T : Nat} {u u' : Value} (hx : a.eval x = u) (hy : a.eval y = u') (h : (Builtin.append_ #[T, T] ty #[u, u']).run P w = .ok v w') :
    (execOp a.eval ⟨dst, .call { callee := .builtin .append, args := #[x, y], argTypes := #[T, T] }, ty, pos, aft, gd⟩).run P w = .ok (.value v) w' := by
  simp only [execOp, resolve, invoke, builtin, Sem.run_bind, Sem.run_pure, Result.andThen_ok, List.map_toArray, List.map_cons, List.map_nil, hx, hy, h]
theorem x_buildSlice {T n : Nat} {u : Value} (hx : a.eval x = u) (h : (Instr.buildSlice T n #[(0, u)]).run P w = .ok v w') :
    (execOp a.eval ⟨dst, .buildSlice T n #[(0, x)], ty, pos, aft, gd⟩).run P w = .ok (.value v) w' := by
  simp [execOp, hx, h]
theorem x_store {T : Nat} {u u' : Value} (hx : a.eval x = u) (hy : a.eval y = u') (h : (Instr.storeAt T u u').run P w = .ok () w') :
    (execOp a.eval ⟨dst, .store T x y, ty, pos, aft, gd⟩).run P w = .ok .skip w' := by
  simp [execOp, hx, hy, h]
end

/-- How many cells a type has. -/
noncomputable def sizeB (T : Nat) : Option Nat := (P.info? T).map (·.size)

theorem one_store {T : Nat} (hT : sizeB T = some 1) {ad : Addr} {w : World} {u v : Value} (hv : v.oneCell' = true) (hc : w.cell? ad = some u) (hf : w.frozen? ad = false) :
    (Instr.storeAt T (.pointer (some ad)) v).run P w = .ok () (w.setCell ad v) := by
  unfold sizeB at hT
  cases hi : P.info? T with
  | none => rw [hi] at hT; cases hT
  | some i =>
    rw [hi] at hT
    simp only [Option.map_some, Option.some.injEq] at hT
    have hcs : v.cells = #[v] := by cases v <;> first | rfl | cases hv
    have hs := run_store P w (ad.add 0) v .plain hv
    simp only [Addr.add, if_true, hc, hf] at hs
    simp [Instr.storeAt, Instr.sureAddr, storeVar, sizeOf, typeInfo, hi, hT, hcs, storeCells, Addr.add, hs]

theorem build_tok_slice (w : World) (c0 c1 c2 : Value) : (Instr.buildSlice tItems 1 #[(0, .agg #[c0, c1, c2])]).run P w = .ok (.slice (some ⟨w.heap.size, 0, none⟩) 1 1) (w.alloc (.cells #[c0, c1, c2] tTok)) := by kernel_rfl
theorem slice_items : sliceB tItems = some 3 := by kernel_rfl
theorem slice_secs : sliceB tSecs = some 2 := by kernel_rfl
theorem plain_items : plainB tItems = true := by kernel_rfl
theorem plain_secs : plainB tSecs = true := by kernel_rfl
theorem size_items : sizeB tItems = some 1 := by kernel_rfl
theorem size_secs : sizeB tSecs = some 1 := by kernel_rfl
theorem fC1 : fieldB tSec 1 = some 1 := by kernel_rfl
theorem under_items : P.underlying tItems = some (.slice tTok) := by kernel_rfl
theorem under_secs : P.underlying tSecs = some (.slice tSec) := by kernel_rfl
theorem info_tok : (P.info? tTok).map (fun i => (i.zero, i.size, i.bytes)) = some (some (.agg #[.string ⟨#[]⟩, .string ⟨#[]⟩, .slice none 0 0]), 3, 56) := by kernel_rfl
theorem info_sec : (P.info? tSec).map (fun i => (i.zero, i.size, i.bytes)) = some (some (.agg #[.string ⟨#[]⟩, .slice none 0 0]), 2, 40) := by kernel_rfl

end Go.Nfp
