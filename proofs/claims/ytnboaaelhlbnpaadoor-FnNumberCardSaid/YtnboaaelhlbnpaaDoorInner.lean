/- The inner loop of impl.Parse's closure: the tokens of a section, one by one. -/
import Derived.Test.YtnboaaelhlbnpaaDoorTok
namespace Go.Nfp
open Go Go.Proofs Go.RowKit

theorem VRel.sub {N : Nat} {env env' : VEnv} {a : Act} (hr : VRel N env a) (h : ∀ p ∈ env', vfind env p.1 = some p.2) : VRel N env' a := by
  refine ⟨hr.size, hr.defers, fun t x hx => hr.spot t x ?_⟩
  induction env' with
  | nil => cases hx
  | cons p l ih =>
    unfold vfind at hx
    split at hx
    · rename_i hb
      have hts := Nat.eq_of_beq_eq_true hb
      simp only [Option.some.injEq] at hx
      subst hx
      have := h p (List.mem_cons_self ..)
      rw [hts] at this
      exact this
    · exact ih (fun q hq => h q (List.mem_cons_of_mem _ hq)) hx

theorem run_lss (x y : Operand) (m n : Int) (w : World) : (do eqGuard .lss 3 x y (.int .i64 m) (.int .i64 n); binOp .lss 3 (.int .i64 m) (.int .i64 n) : Sem Value).run P w = .ok (.bool (decide (m < n))) w := by
  simp [eqGuard, binOp, Op.intCmp]
theorem run_inc (x y : Operand) (m : Nat) (hm : m ≤ 100000) (w : World) : (do eqGuard .add 3 x y (.int .i64 (m : Int)) (.int .i64 1); binOp .add 3 (.int .i64 (m : Int)) (.int .i64 1) : Sem Value).run P w = .ok (.int .i64 ((m + 1 : Nat) : Int)) w := by
  have e : IntKind.i64.wrap ((m : Int) + 1) = (m : Int) + 1 := IntWalk.i64_in _ (by omega)
  simp [eqGuard, binOp, Op.intArith, e]

/-- The cells of the tokens as data. -/
def outCells (toks : Toks) : List Value := toks.flatMap fun p => [.string (bs p.2), .string (bs p.1), .slice none 0 0]

noncomputable def pOuter : Code := (Tryd.f14.body.bind loopBody).getD .skip
noncomputable def pInner : Code := (loopBody pOuter).getD .skip

theorem f55_1 : fieldB 55 1 = some 1 := by kernel_rfl
theorem f55_0 : fieldB 55 0 = some 0 := by kernel_rfl
theorem plain_53 : plainB 53 = true := by kernel_rfl
theorem size_53 : sizeB 53 = some 1 := by kernel_rfl
theorem under_53 : P.underlying 53 = some (.slice 58) := by kernel_rfl
theorem info_58 : (P.info? 58).map (fun i => (i.zero, i.size, i.bytes)) = some (some (.agg #[.string ⟨#[]⟩, .string ⟨#[]⟩, .slice none 0 0]), 3, 56) := by kernel_rfl
theorem enter17 (w : World) (args : Array Value) : (callFunc 17 args).run P w = .ok (.enter 17 args) w := by kernel_rfl
theorem build_58 (w : World) (c0 c1 c2 : Value) : (Instr.buildSlice 53 1 #[(0, .agg #[c0, c1, c2])]).run P w = .ok (.slice (some ⟨w.heap.size, 0, none⟩) 1 1) (w.alloc (.cells #[c0, c1, c2] 58)) := by kernel_rfl
theorem alloc45 (ρ : Operand → Value) (d : Nat) (ty : TypeId) (pos : String) (aft : Array Edge) (w : World) : (execOp ρ ⟨some d, .alloc 45, ty, pos, aft, none⟩).run P w = .ok (.value (.pointer (some ⟨w.heap.size, 0, none⟩))) (w.alloc (.cells #[.string ⟨#[]⟩, .string ⟨#[]⟩, .slice none 0 0] tTok)) := by kernel_rfl

section
variable {ops : Array Oper} {Q : Exit → Act → World → Prop} {S : World → Prop} {a : Act} {o : Oper} {rest : List Oper} {w : World} {N t : Nat} {env : VEnv}
theorem t_call (f : Nat) (args : Array Value) (v : Value) {Pw : World → Prop} (hr : VRel N env a) (hg : o.guard = none) (hd : o.dst = some t) (ht : Nat.blt t N = true) (hrun : ∀ a, VRel N env a → (execOp a.eval o).run P w = .ok (.enter f args) w)
    (hc : Calls P f args w fun e w' => e = .returned v ∧ Pw w') (h : ∀ a' w', VRel N ((t, v) :: env) a' → Pw w' → (rest ≠ [] → S w') ∧ tailZ P ops Q S rest a' w') : tailZ P ops Q S (o :: rest) a w := by
  unfold tailZ
  rw [if_pos (by simp [Region.wanted, hg])]
  refine .inl ?_
  unfold Oper.wp
  rw [hrun a hr, Oper.upon_enter]
  refine hc.mono fun e w' ⟨he, hw'⟩ => ?_
  subst he
  simp only [hd]
  exact h _ _ (hr.put ht v) hw'
end

theorem tokCells_at : ∀ {toks : Toks} {k : Nat} {p : List UInt8 × List UInt8}, toks[k]? = some p → (tokCells toks)[k * 3]? = some (.string (bs p.1)) ∧ (tokCells toks)[k * 3 + 1]? = some (.string (bs p.2)) ∧ (tokCells toks)[k * 3 + 2]? = some (.slice none 0 0)
  | [], k, p, h => by simp at h
  | q :: l, 0, p, h => by
    simp only [List.getElem?_cons_zero, Option.some.injEq] at h
    subst h
    exact ⟨rfl, rfl, rfl⟩
  | q :: l, k + 1, p, h => by
    simp only [List.getElem?_cons_succ] at h
    obtain ⟨h1, h2, h3⟩ := tokCells_at h
    have e : ∀ i, (tokCells (q :: l))[(k + 1) * 3 + i]? = (tokCells l)[k * 3 + i]? := fun i => by
      have : (k + 1) * 3 + i = (k * 3 + i) + 3 := by omega
      rw [this]
      rfl
    exact ⟨(e 0).trans h1, (e 1).trans h2, (e 2).trans h3⟩

theorem outCells_succ {toks : Toks} {k : Nat} {p : List UInt8 × List UInt8} (h : toks[k]? = some p) : outCells (toks.take (k + 1)) = outCells (toks.take k) ++ [.string (bs p.2), .string (bs p.1), .slice none 0 0] := by
  have hk : k < toks.length := (List.getElem?_eq_some_iff.1 h).1
  rw [List.take_add_one, h]
  simp [outCells]

theorem cellAt {w : World} {g cap n : Nat} {base e size : Nat} {xs : List Value} (h : w.ownsRow base e size (.slice (some ⟨g, 0, none⟩) n cap) n xs) {j : Nat} {u : Value} (hu : xs[j]? = some u) : w.cell? ⟨g, 0 + j, none⟩ = some u := by
  have := h.cells rfl j u hu
  unfold Addr.add at this
  split at this
  · rename_i h0
    subst h0
    exact this
  · exact this

theorem load_tok3 {w : World} {b o : Nat} {v t u : Value} (h0 : w.cell? ⟨b, o, none⟩ = some v) (h1 : w.cell? ⟨b, o + 1, none⟩ = some t) (h2 : w.cell? ⟨b, o + 2, none⟩ = some u) : (Instr.loadAt tTok (.pointer (some ⟨b, o, none⟩))).run P w = .ok (.agg #[v, t, u]) w := by
  refine aggB_load (ad := ⟨b, o, none⟩) agg_tok (cs := [v, t, u]) rfl (fun j z hz => ?_)
  match j, hz with
  | 0, hz => simp at hz; subst hz; simpa [Addr.add] using h0
  | 1, hz => simp at hz; subst hz; simpa [Addr.add] using h1
  | 2, hz => simp at hz; subst hz; simpa [Addr.add] using h2
  | n + 3, hz => simp at hz

theorem x_loadR {a : Act} {W : World} {dst : Option Tmp} {ty : TypeId} {pos : String} {aft : Array Edge} {gd : Option (Nat × Bool)} {x : Operand} {T : Nat} {p v : Value} (hx : a.eval x = p) (h : (Instr.loadAt T p).run P W = .ok v W) :
    (execOp a.eval ⟨dst, .load T x, ty, pos, aft, gd⟩).run P W = .ok (.value v) W := by simp only [execOp, hx, Sem.run_bind, h, Result.andThen_ok, Sem.run_pure]

/-- The world behind k tokens. -/
structure XInv (xb : Nat) (c0 : Value) (toks : Toks) (wx : World) (k : Nat) (w : World) : Prop where
  os : w.os = wx.os
  tape : w.tape = wx.tape
  output : w.output = wx.output
  size : wx.heap.size ≤ w.heap.size
  block : ∀ j, j < xb → w.heap[j]? = wx.heap[j]?
  here : ∃ it, w.heap[xb]? = some (.cells #[c0, it] 55 (0, 0)) ∧ w.ownsRow (xb + 1) 58 3 it k (outCells (toks.take k))

def innerEnv (xb lb : Nat) (items : Value) (n k : Nat) : VEnv := [(22, .int .i64 (k : Int)), (21, .int .i64 (n : Int)), (20, items), (5, .pointer (some ⟨xb, 0, none⟩)), (1, .pointer (some ⟨lb, 0, none⟩)), (12, .int .i64 ((0 : Nat) : Int)), (11, .int .i64 ((1 : Nat) : Int))]

/-- What region 8 reads. -/
def XSees (xb tb : Nat) (it v t : Value) (W : World) : Prop :=
  W.cell? ⟨xb, 0 + 1, none⟩ = some it ∧ W.frozen? ⟨xb, 0 + 1, none⟩ = false ∧ W.cell? ⟨tb, 0, none⟩ = some v ∧ W.cell? ⟨tb, 1, none⟩ = some t ∧ W.cell? ⟨tb, 2, none⟩ = some (.slice none 0 0)

theorem XSees.grown {xb tb : Nat} {it v t : Value} {W W' : World} (h : XSees xb tb it v t W) {row : Option Nat} (hg : W.grownBy W' row) (n2 : some xb ≠ row) (n3 : some tb ≠ row) : XSees xb tb it v t W' := by
  obtain ⟨h3, h4, h5, h6, h7⟩ := h
  refine ⟨hg.cell h3 n2, ?_, hg.cell h5 n3, hg.cell h6 n3, hg.cell h7 n3⟩
  rw [World.frozen?_of_block (hg.block xb (World.block_lt_of_cell? W _ h3) n2)]
  exact h4

theorem inner_round (xb lb : Nat) (c0 : Value) (toks : Toks) (wx : World) (base gi cap : Nat) (hgi : gi < xb) (hn : toks.length ≤ 1000) (hrow : wx.ownsRow base tTok 3 (.slice (some ⟨gi, 0, none⟩) toks.length cap) toks.length (tokCells toks)) {Q : Exit → Act → World → Prop} (hQp : ∀ c a t v w, Q (.panic c) (a.put t v) w → Q (.panic c) a w)
    (hQ : ∀ a w, VRel 39 (innerEnv xb lb (.slice (some ⟨gi, 0, none⟩) toks.length cap) toks.length toks.length) a → XInv xb c0 toks wx toks.length w → Q (.exit 2) a w) :
    ∀ m k, k + m = toks.length → ∀ a w, VRel 39 (innerEnv xb lb (.slice (some ⟨gi, 0, none⟩) toks.length cap) toks.length k) a → XInv xb c0 toks wx k w → Code.rounds P pInner Q (m + 1) a w := by
  intro m
  induction m with
  | zero =>
    intro k hk a w hr hI
    have hkn : k = toks.length := by omega
    subst hkn
    have hcode : pInner = Code.seq (Code.region 6 _ false) (Code.seq (Code.cond (.tmp 23) .skip (.exit 2)) _) := rfl
    rw [rounds_succ, hcode]
    refine wp_seq (wp_region_lit ?_)
    refine l_env (.bool (decide ((toks.length : Int) < (toks.length : Int)))) w hr rfl rfl rfl (fun a hr => x_bin (hr.arg rfl) (hr.arg rfl) (run_lss _ _ _ _ _)) fun a hr => wpList_nil ?_
    have hf : decide ((toks.length : Int) < (toks.length : Int)) = false := by simp
    rw [hf] at hr
    refine wp_seq (wp_cond (t := false) (hr.arg rfl) ?_)
    exact wp_exit (hQ a w (hr.sub (by intro p hp; simp only [innerEnv, List.mem_cons, List.not_mem_nil, or_false] at hp; rcases hp with rfl | rfl | rfl | rfl | rfl | rfl | rfl <;> rfl)) hI)
  | succ m ih =>
    intro k hk a w hr hI
    have hlt : k < toks.length := by omega
    obtain ⟨p, hp⟩ : ∃ p, toks[k]? = some p := ⟨_, List.getElem?_eq_getElem hlt⟩
    obtain ⟨t0, t1, t2⟩ := tokCells_at hp
    obtain ⟨it, hxb, hown⟩ := hI.here
    have hw := hI.size
    have g0 : w.cell? ⟨gi, 0 + k * 3, none⟩ = some (.string (bs p.1)) := (World.cell?_of_block (hI.block gi hgi)).trans (cellAt hrow t0)
    have g1 : w.cell? ⟨gi, 0 + k * 3 + 1, none⟩ = some (.string (bs p.2)) := by
      have := (World.cell?_of_block (hI.block gi hgi)).trans (cellAt hrow t1)
      simpa [Nat.add_assoc] using this
    have g2 : w.cell? ⟨gi, 0 + k * 3 + 2, none⟩ = some (.slice none 0 0) := by
      have := (World.cell?_of_block (hI.block gi hgi)).trans (cellAt hrow t2)
      simpa [Nat.add_assoc] using this
    have hcode : pInner = Code.seq (Code.region 6 _ false) (Code.seq (Code.cond (.tmp 23) .skip (.exit 2)) (Code.seq (Code.block 3 (Code.seq (Code.region 7 _ false) (Code.region 8 _ true))) (Code.region 9 _ false))) := rfl
    rw [rounds_succ, hcode]
    refine wp_seq (wp_region_lit ?_)
    refine l_env (.bool (decide ((k : Int) < (toks.length : Int)))) w hr rfl rfl rfl (fun a hr => x_bin (hr.arg rfl) (hr.arg rfl) (run_lss _ _ _ _ _)) fun a hr => wpList_nil ?_
    have hf : decide ((k : Int) < (toks.length : Int)) = true := by simpa using hlt
    rw [hf] at hr
    refine wp_seq (wp_cond (t := true) (hr.arg rfl) (wp_skip ?_))
    refine wp_seq (wp_block (wp_seq (wp_region_lit ?_)))
    refine l_env (.pointer (some ⟨gi, 0 + k * 3, none⟩)) w hr rfl rfl rfl (fun a hr => x_index slice_items (hr.arg rfl) (hr.arg rfl) hlt) fun a hr => ?_
    refine l_env (.agg #[.string (bs p.1), .string (bs p.2), .slice none 0 0]) w hr rfl rfl rfl (fun a hr => x_loadR (hr.arg rfl) (load_tok3 g0 g1 g2)) fun a hr => ?_
    refine l_env _ _ hr rfl rfl rfl (fun a hr => alloc45 _ 7 _ _ _ w) fun a hr => ?_
    have ga := World.grownBy_alloc w (.cells #[.string ⟨#[]⟩, .string ⟨#[]⟩, .slice none 0 0] tTok) none
    have bt0 := heap_alloc_new w (.cells #[.string ⟨#[]⟩, .string ⟨#[]⟩, .slice none 0 0] tTok)
    refine l_done _ hr rfl rfl (fun a hr => x_store (hr.arg rfl) (hr.arg rfl) (store_at size_tok (vs := [.string (bs p.1), .string (bs p.2), .slice none 0 0]) rfl rfl (by simp [Value.oneCell']) bt0 (by decide))) fun a hr => wpList_nil ?_
    generalize hw1 : World.setRow _ _ _ = w1
    have bt : w1.heap[w.heap.size]? = some (.cells #[.string (bs p.1), .string (bs p.2), .slice none 0 0] tTok (0, 0)) := by
      subst hw1
      exact heap_setRow_self bt0
    have gw : w.grownBy w1 none := by
      subst hw1
      refine ⟨rfl, rfl, rfl, ?_, fun j hj _ => ?_⟩
      · have := ga.size
        simp only [World.setRow, Array.size_modify]
        exact this
      · rw [heap_setRow_ne (by omega)]
        exact ga.block j hj (by simp)
    clear hw1 ga bt0
    have gws := gw.size
    have lxb := lt_of_block hxb
    have b1 := (gw.block xb lxb (by simp)).trans hxb
    have hsee0 : XSees xb w.heap.size it (.string (bs p.1)) (.string (bs p.2)) { w1 with drawn := w1.drawn + 1 } := ⟨cell_of_block b1 rfl, free_of_block b1, cell_of_block bt rfl, cell_of_block bt rfl, cell_of_block bt rfl⟩
    refine wp_region_heldlast 3 (XSees xb w.heap.size it (.string (bs p.1)) (.string (bs p.2))) (by kernel_rfl) (by kernel_rfl) ?_ hsee0 ?_
    · exact fun c a t v w h => hQp c a t v w h
    simp only [List.take_succ_cons, List.take_zero, List.drop_succ_cons, List.drop_zero]
    refine q_env (.pointer (some ⟨xb, 0 + 1, none⟩)) hr rfl rfl rfl (fun a W hr hW => x_field f55_1 (hr.arg rfl)) (fun a hr => ?_)
    refine q_env it hr rfl rfl rfl (fun a W hr hW => x_load plain_53 (hr.arg rfl) hW.1) (fun a hr => ?_)
    refine q_env (.agg #[.string (bs p.1), .string (bs p.2), .slice none 0 0]) hr rfl rfl rfl (fun a W hr hW => x_tok (hr.arg rfl) hW.2.2.1 hW.2.2.2.1 hW.2.2.2.2) (fun a hr => ?_)
    refine wpQuiet_nil ?_
    generalize hw2 : ({ w1 with drawn := w1.drawn + 1 } : World) = w2 at hsee0 ⊢
    have g2w : w.grownBy w2 none := by
      subst hw2
      exact ⟨gw.os, gw.tape, gw.output, gw.size, gw.block⟩
    clear hw2
    refine t_call 17 #[.agg #[.string (bs p.1), .string (bs p.2), .slice none 0 0]] _ hr rfl rfl rfl (fun a hr => x_callv (by simp [hr.arg (x := .tmp 28) rfl]) (enter17 _ _)) (token_calls (bs p.1) (bs p.2) w2) fun a w3 hr g3 => ?_
    have hsee3 := hsee0.grown g3 (by simp) (by simp)
    refine ⟨fun _ => hsee3, ?_⟩
    have ga4 := World.grownBy_alloc w3 (.cells #[.string (bs p.2), .string (bs p.1), .slice none 0 0] 58) none
    have hsee4 := hsee3.grown ga4 (by simp) (by simp)
    refine t_env (.slice (some ⟨w3.heap.size, 0, none⟩) 1 1) (w3.alloc (.cells #[.string (bs p.2), .string (bs p.1), .slice none 0 0] 58)) hr rfl rfl rfl (fun a hr => x_buildSlice (hr.arg rfl) (build_58 w3 _ _ _)) (fun _ => hsee4) (fun a hr => ?_)
    have g4w : w.grownBy (w3.alloc (.cells #[.string (bs p.2), .string (bs p.1), .slice none 0 0] 58)) none := by
      have := g2w.size
      have := g3.size
      have := ga4.size
      exact ⟨g3.os.trans g2w.os, g3.tape.trans g2w.tape, g3.output.trans g2w.output, by omega, fun j hj hne => by rw [ga4.block j (by omega) hne, g3.block j (by omega) hne, g2w.block j hj hne]⟩
    have hown4 : (w3.alloc (.cells #[.string (bs p.2), .string (bs p.1), .slice none 0 0] 58)).ownsRow (xb + 1) 58 3 it k (outCells (toks.take k)) := hown.kept g4w (by cases it.ownBlock <;> simp)
    have hlt4 := hown.lt
    obtain ⟨i0, hi0, hz0, hz1, hz2⟩ := info_parts info_58
    have g4s := g4w.size
    obtain ⟨v', w5, hrun, hown5, hg5, -⟩ := run_append_own (P := P) (w3.alloc (.cells #[.string (bs p.2), .string (bs p.1), .slice none 0 0] 58)) (xb + 1) 53 53 58 i0 _ 3 56 under_53 hi0 hz0 hz1 hz2 rfl (by omega) it k _ hown4 ⟨w3.heap.size, 0, none⟩ 1 1 [.string (bs p.2), .string (bs p.1), .slice none 0 0] rfl
      (fun j u hu => by
        match j, hu with
        | 0, hu => simp at hu; subst hu; exact World.cell?_alloc_new w3 _ _ 0
        | 1, hu => simp at hu; subst hu; exact World.cell?_alloc_new w3 _ _ 1
        | 2, hu => simp at hu; subst hu; exact World.cell?_alloc_new w3 _ _ 2
        | m + 3, hu => simp at hu)
      (fun u hu => by
        simp only [List.mem_cons, List.not_mem_nil, or_false] at hu
        rcases hu with rfl | rfl | rfl <;> rfl)
      (by simp only [maxLen]; omega) (by omega) (by omega)
    have nx : some xb ≠ it.ownBlock := fun e => by have := (hlt4 _ e.symm).1; omega
    have nt : some w.heap.size ≠ it.ownBlock := fun e => by have := (hlt4 _ e.symm).2; omega
    have hsee5 := hsee4.grown hg5 nx nt
    refine t_env v' w5 hr rfl rfl rfl (fun a hr => x_append (hr.arg rfl) (hr.arg rfl) hrun) (fun _ => hsee5) (fun a hr => ?_)
    refine t_env (.pointer (some ⟨xb, 0 + 1, none⟩)) w5 hr rfl rfl rfl (fun a hr => x_field f55_1 (hr.arg rfl)) (fun _ => hsee5) (fun a hr => ?_)
    have hv1 : v'.oneCell' = true := by
      rcases hown5.2 with ⟨rfl, -⟩ | ⟨_, _, _, rfl, -⟩ <;> rfl
    refine t_done (w5.setCell ⟨xb, 0 + 1, none⟩ v') hr rfl rfl (fun a hr => x_store (hr.arg rfl) (hr.arg rfl) (one_store size_53 hv1 hsee5.1 hsee5.2.1)) (fun h => absurd rfl h) (fun a hr => ?_)
    have b5 : w5.heap[xb]? = some (.cells #[c0, it] 55 (0, 0)) := by
      rw [hg5.block xb (by omega) nx, g4w.block xb lxb (by simp)]
      exact hxb
    have hI6 : XInv xb c0 toks wx (k + 1) (w5.setCell ⟨xb, 0 + 1, none⟩ v') := by
      refine ⟨hg5.os.trans (g4w.os.trans hI.os), hg5.tape.trans (g4w.tape.trans hI.tape), hg5.output.trans (g4w.output.trans hI.output), ?_, fun j hj => ?_, v', ?_, ?_⟩
      · have := hg5.size
        simp only [World.setCell, Array.size_modify]
        omega
      · rw [Below.heap_setCell _ _ _ _ (by show j ≠ xb; omega), hg5.block j (by omega) (fun e => by have := (hlt4 _ e.symm).1; omega), g4w.block j (by omega) (by simp)]
        exact hI.block j hj
      · exact block_setCell b5
      · rw [outCells_succ hp]
        refine ownsRow_setCell_other hown5 (fun e => ?_) _
        have h9 : xb + 1 ≤ xb := (hown5.lt _ e).1
        omega
    refine wp_region_lit ?_
    refine l_env (.int .i64 ((k + 1 : Nat) : Int)) _ hr rfl rfl rfl (fun a hr => x_bin (hr.arg rfl) (hr.arg rfl) (run_inc _ _ k (by omega) _)) fun a hr => ?_
    refine l_env (.int .i64 ((k + 1 : Nat) : Int)) _ hr rfl rfl rfl (fun a hr => x_move (hr.arg rfl)) fun a hr => wpList_nil ?_
    exact ih (k + 1) (by omega) a _ (hr.sub (by intro p hp; simp only [innerEnv, List.mem_cons, List.not_mem_nil, or_false] at hp; rcases hp with rfl | rfl | rfl | rfl | rfl | rfl | rfl <;> rfl)) hI6
end Go.Nfp
