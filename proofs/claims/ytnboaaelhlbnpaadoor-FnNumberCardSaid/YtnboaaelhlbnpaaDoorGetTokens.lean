/- The walk of getTokens: round after round by the executor, then the last token, then what is handed back. -/
import Derived.Test.YtnboaaelhlbnpaaDoorRounds
import Derived.Test.YtnboaaelhlbnpaaDoorLwalk
import Derived.LoopN
namespace Go.Nfp
open Go Go.Proofs Go.RowKit

theorem stOf_some {r : Option (Ex × Env × St)} {e : Ex} {st : St} {rb : Nat} (h : stOf r = some (e, st, some (.ps 0), some (.res rb))) :
    ∃ env, r = some (e, env, st) ∧ find env 0 = some (.ps 0) ∧ find env 2 = some (.res rb) := by
  unfold stOf at h
  cases r with
  | none => cases h
  | some x =>
    obtain ⟨e', env, st'⟩ := x
    simp only [Option.map_some, Option.some.injEq, Prod.mk.injEq] at h
    obtain ⟨rfl, rfl, h1, h2⟩ := h
    exact ⟨env, rfl, h1, h2⟩

theorem Rel.env0 {bp o o' rb : Nat} {env : Env} {a : Act} (hr : Rel bp o env a) (h0 : find env 0 = some (.ps 0)) (h2 : find env 2 = some (.res rb)) : Rel bp o' (env0 rb) a := by
  refine ⟨hr.size, hr.defers, fun t x h => ?_⟩
  unfold Nfp.env0 find at h
  split at h
  · rename_i hb
    have ht := Nat.eq_of_beq_eq_true hb
    subst ht
    simp only [Option.some.injEq] at h
    subst h
    exact hr.spot 0 _ h0
  · unfold find at h
    split at h
    · rename_i hb
      have ht := Nat.eq_of_beq_eq_true hb
      subst ht
      simp only [Option.some.injEq] at h
      subst h
      exact hr.spot 2 _ h2
    · cases h

theorem Rel.v {bp o rb : Nat} {a : Act} (hr : Rel bp o (Nfp.env0 rb) a) : VRel nSlots [(0, .pointer (some ⟨bp, 0, none⟩)), (2, .pointer (some ⟨rb, 0, none⟩))] a := by
  have h0 := (hr.spot 0 (.ps 0) rfl).1
  have h2 := (hr.spot 2 (.res rb) rfl).1
  exact ((VRel.of hr.size hr.defers).also h2).also h0

abbrev Toks := List (List UInt8 × List UInt8)

/-- Round after round: from offset o, the token's value tv and type tt, the tokens so far, to the end of the runes. -/
inductive Scan (rs : List UInt8) (tvE ttE : List UInt8) (toksE : Toks) : Nat → Nat → List UInt8 → List UInt8 → Toks → Prop
  | stop {o : Nat} : rs.length ≤ o → Scan rs tvE ttE toksE 0 o tvE ttE toksE
  | step {n o d b l : Nat} {tv tt tv' tt' : List UInt8} {toks toks' : Toks} (L : Look) : LookAt rs o L →
      (∀ rb, stOf (runC gbody (env0 rb) ⟨0, tv, 100, tt, toks, some L, 4⟩) = some (.normal, ⟨d, tv', b, tt', toks', none, l⟩, some (.ps 0), some (.res rb))) →
      tv'.length ≤ 100 → toks'.length ≤ 900 → o + d ≤ 100000 → Scan rs tvE ttE toksE n (o + d) tv' tt' toks' → Scan rs tvE ttE toksE (n + 1) o tv tt toks

theorem PS.look' {s : Site} {o0 : Nat} {st : St} {w : World} (h : PS s o0 st w) (htv : st.tv.length ≤ 100) (hto : st.toks.length ≤ 900) {L : Look} (hL : LookAt s.rs (o0 + st.d) L) :
    PS s (o0 + st.d) ⟨0, st.tv, 100, st.tt, st.toks, some L, 4⟩ w :=
  ⟨h.os, h.tape, h.output, h.size, h.block, h.parser, ⟨htv, by show 100 ≤ 4096; decide, h.small.2.2⟩, by show st.toks.length + 4 ≤ 1000; omega, fun k hk => by cases hk; exact hL⟩

theorem scan_rounds {s : Site} (hs : s.Ok) {tvE ttE : List UInt8} {toksE : Toks} {rb : Nat} {Q : Exit → Act → World → Prop}
    (hQ : ∀ o' a' w', o' ≤ 100000 → Rel s.bp o' (env0 rb) a' → PS s o' ⟨0, tvE, 100, ttE, toksE, some ⟨true, [], [], []⟩, 4⟩ w' → Q (.exit 0) a' w') :
    ∀ {n o : Nat} {tv tt : List UInt8} {toks : Toks}, Scan s.rs tvE ttE toksE n o tv tt toks → ∀ a w o1 st, o1 + st.d = o → st.tv = tv → st.tt = tt → st.toks = toks → tv.length ≤ 100 → toks.length ≤ 900 → o ≤ 100000 →
      PS s o1 st w → Rel s.bp o (env0 rb) a → Code.rounds P gbody Q (n + 1) a w := by
  intro n o tv tt toks h
  induction h with
  | stop hle =>
    rename_i o
    intro a w o1 st ho h1 h2 h3 htv hto hb hPS hr
    subst ho; subst h1; subst h2; subst h3
    rw [rounds_succ]
    have hL : LookAt s.rs (o1 + st.d) ⟨true, [], [], []⟩ := ⟨by simpa using hle, fun h => (by cases h), fun h => absurd rfl h⟩
    obtain ⟨env, hrun, f0, f2⟩ := stOf_some (reof rb st.toks st.tv st.tt)
    exact runC_sound (par hs hb) hrun hr (hPS.look' htv hto hL) fun a' w' hr' hPS' => hQ _ a' w' hb (hr'.env0 f0 f2) hPS'
  | step L hL hrun htv' hto' hb' _ ih =>
    rename_i n o d b l tv tt tv' tt' toks toks' _
    intro a w o1 st ho h1 h2 h3 htv hto hb hPS hr
    subst ho; subst h1; subst h2; subst h3
    rw [rounds_succ]
    obtain ⟨env, hrun, f0, f2⟩ := stOf_some (hrun rb)
    exact runC_sound (par hs hb) hrun hr (hPS.look' htv hto hL) fun a' w' hr' hPS' => ih a' w' _ _ rfl rfl rfl rfl htv' hto' hb' hPS' (hr'.env0 f0 f2)

noncomputable def ghead : Code := match Tryd.f21.body with
  | some (.seq c _) => c
  | _ => .skip
noncomputable def gend : Code := match Tryd.f21.body with
  | some (.seq _ (.seq _ (.seq _ c))) => c
  | _ => .skip
theorem gcode : Tryd.f21.body = some (.seq ghead (.seq (.block 0 (.loop gbody)) (.seq gtail gend))) := by kernel_rfl

theorem alloc42 (ρ : Operand → Value) (d : Nat) (pos : String) (w : World) : (execOp ρ ⟨some d, .alloc 42, 0, pos, #[], none⟩).run P w = .ok (.value (.pointer (some ⟨w.heap.size, 0, none⟩))) (w.alloc (.cells #[.int .i64 0, .int .i64 0, .slice none 0 0] tToks)) := by kernel_rfl

theorem SecInv.kept' {B : Nat} {secs : Value} {toks : Toks} {w W : World} (h : SecInv (B + 1) secs toks w) (hb : ∀ k, B + 1 ≤ k → k < w.heap.size → W.heap[k]? = w.heap[k]?) : SecInv B secs toks W := by
  rcases h with h | ⟨bsn, cap, cs, items, rfl, h1, hh, hc0, hc1, hown⟩
  · exact .inl h
  · exact .inr ⟨bsn, cap, cs, items, rfl, by omega, (hb bsn h1 (lt_of_block hh)).trans hh, hc0, hc1, owns_of_block hown fun k hk => by
      have := hown.lt k hk
      exact hb k (by omega) this.2⟩

/-- What getTokens leaves behind. -/
structure Tokened (bp br cr : Nat) (rs : List UInt8) (fmt ix secs : Value) (toks : Toks) (w w' : World) : Prop where
  os : w'.os = w.os
  tape : w'.tape = w.tape
  output : w'.output = w.output
  size : w.heap.size ≤ w'.heap.size
  block : ∀ k, k < w.heap.size → k ≠ bp → w'.heap[k]? = w.heap[k]?
  parser : ∃ off tv tt, w'.heap[bp]? = some (.cells (pcells fmt br rs.length cr off ix secs tv tt) tParser (0, 0))
  secs : SecInv w.heap.size secs toks w'

theorem getTokens_calls (bp br cr : Nat) (rs : List UInt8) (fmt ix : Value) (w : World)
    (hp : w.heap[bp]? = some (.cells (pcells fmt br rs.length cr 0 ix (.slice none 0 0) [] []) tParser (0, 0))) (hne : br ≠ bp) (hbr : br < w.heap.size)
    (hrunes : ∀ (i : Nat) (c : UInt8), rs[i]? = some c → w.cell? ⟨br, i, none⟩ = some (.int .i32 c.toNat)) (hascii : ∀ (i : Nat) (c : UInt8), rs[i]? = some c → c.toNat < 128) (hlen : rs.length ≤ 1000) (hcap : rs.length ≤ cr) (hix : ix.oneCell' = true)
    {n : Nat} {tvE ttE : List UInt8} {toksE : Toks} {stF : St} (hscan : Scan rs tvE ttE toksE n 0 [] [] [])
    (hend : ∀ rb, stOf (runC gtail (env0 rb) ⟨0, tvE, 100, ttE, toksE, some ⟨true, [], [], []⟩, 4⟩) = some (.normal, stF, some (.ps 0), some (.res rb))) :
    Calls P 21 #[.pointer (some ⟨bp, 0, none⟩)] w fun e w' => ∃ secs, e = .returned (.agg #[ix, .int .i64 0, secs]) ∧ Tokened bp br cr rs fmt ix secs stF.toks w w' := by
  have lbp := lt_of_block hp
  refine calls_of_wp Tryd.func21 gcode ?_
  have hr0 : VRel nSlots [(0, .pointer (some ⟨bp, 0, none⟩))] { tmps := #[.pointer (some ⟨bp, 0, none⟩)] ++ Array.replicate (Tryd.f21.ntmps - (#[Value.pointer (some ⟨bp, 0, none⟩)] : Array Value).size) undef, defers := [] } := by
    refine (VRel.of ?_ rfl).also ?_
    · rw [Tryd.ntmps21]
      simp
    · simp
  generalize ({ tmps := _, defers := [] } : Act) = a0 at hr0 ⊢
  have hhead : ghead = Code.region 0 _ false := rfl
  have htl : gend = Code.seq (Code.region 311 _ false) (Code.seq (Code.region 312 _ false) (Code.seq (Code.region 313 _ false) Code.ret)) := rfl
  rw [hhead]
  refine wp_seq (wp_region_lit (l_env _ _ hr0 rfl rfl rfl (fun a _ => alloc42 _ 2 _ w) fun a1 hr1 => wpList_nil ?_))
  generalize hw1 : w.alloc _ = w1
  have hb1 : w1.heap[w.heap.size]? = some (.cells #[.int .i64 0, .int .i64 0, .slice none 0 0] tToks (0, 0)) := by
    subst hw1
    exact heap_alloc_new w _
  have ha1 : ∀ k, k < w.heap.size → w1.heap[k]? = w.heap[k]? := by
    subst hw1
    exact fun k hk => Below.heap_alloc w _ k hk
  have hz1 : w1.heap.size = w.heap.size + 1 := by
    subst hw1
    simp
  have he1 : w1.os = w.os ∧ w1.tape = w.tape ∧ w1.output = w.output := by
    subst hw1
    exact ⟨rfl, rfl, rfl⟩
  clear hw1
  let s : Site := ⟨w.heap.size + 1, bp, br, cr, rs, fmt, ix, w1⟩
  have hs : s.Ok := ⟨by show bp < w.heap.size + 1; omega, by show w.heap.size + 1 ≤ w1.heap.size; omega, by show br < w.heap.size + 1; omega, hne, fun i c hc => (World.cell?_of_block (ha1 br hbr)).trans (hrunes i c hc), hascii, hlen, hcap⟩
  have hPS : PS s 0 ⟨0, [], 100, [], [], none, 4⟩ w1 :=
    ⟨rfl, rfl, rfl, Nat.le_refl _, fun _ _ _ => rfl, ⟨.slice none 0 0, (ha1 bp lbp).trans hp, .inl ⟨rfl, rfl⟩⟩, ⟨by decide, by decide, by decide⟩, by show 0 + 4 ≤ 1000; decide, fun k hk => by cases hk⟩
  have hrel : Rel s.bp 0 (env0 w.heap.size) a1 := by
    refine ⟨hr1.size, hr1.defers, fun t x h => ?_⟩
    unfold env0 find at h
    split at h
    · rename_i hb
      have ht := Nat.eq_of_beq_eq_true hb
      subst ht
      simp only [Option.some.injEq] at h
      subst h
      exact ⟨hr1.spot 0 _ rfl, trivial⟩
    · unfold find at h
      split at h
      · rename_i hb
        have ht := Nat.eq_of_beq_eq_true hb
        subst ht
        simp only [Option.some.injEq] at h
        subst h
        exact ⟨hr1.spot 2 _ rfl, trivial⟩
      · cases h
  refine wp_seq (wp_block (wp_loop_rounds (n + 1) (scan_rounds hs (rb := w.heap.size) ?_ hscan a1 w1 0 _ rfl rfl rfl rfl (by decide) (by decide) (by decide) hPS hrel)))
  intro o2 a2 w2 ho2 hr2 hPS2
  obtain ⟨env3, hrun3, f30, f32⟩ := stOf_some (hend w.heap.size)
  refine wp_seq (runC_sound (par hs ho2) hrun3 hr2 hPS2 fun a3 w3 hr3 hPS3 => ?_)
  have hv3 := (hr3.env0 (o' := 0) f30 f32).v
  clear hr3 hr2 hPS2 hrun3 hr1 hr0 hrel
  obtain ⟨secs, hp3, hsec3⟩ := hPS3.parser
  have z3 := hPS3.size
  rw [htl]
  refine wp_seq (wp_region_lit (l_call 36 #[] _ hv3 rfl rfl rfl (fun a hr => x_callv (by simp) (enter36 _ _)) (fTokens_calls w3) fun a4 w4 hv4 hg4 => ?_))
  refine l_env _ _ hv4 rfl rfl rfl (fun a _ => alloc42 _ 18 _ w4) fun a5 hv5 => ?_
  generalize hw5 : w4.alloc (.cells #[.int .i64 0, .int .i64 0, .slice none 0 0] tToks) = w5
  have hb5 : w5.heap[w4.heap.size]? = some (.cells #[.int .i64 0, .int .i64 0, .slice none 0 0] tToks (0, 0)) := by
    subst hw5
    exact heap_alloc_new w4 _
  have hg5 : w3.grownBy w5 none := by
    subst hw5
    have := (World.grownBy_alloc w4 (.cells #[.int .i64 0, .int .i64 0, .slice none 0 0] tToks) none)
    exact ⟨hg4.os, hg4.tape, hg4.output, Nat.le_trans hg4.size this.size, fun k hk hne => (this.block k (Nat.lt_of_lt_of_le hk hg4.size) hne).trans (hg4.block k hk hne)⟩
  have z4 := hg4.size
  clear hw5
  refine l_done _ hv5 rfl rfl (fun a hr => x_store (hr.arg rfl) (hr.arg rfl) (store_at size_toks (vs := [.int .i64 (-1), .int .i64 0, .slice none 0 0]) rfl rfl (fun u hu => ?_) hb5 (by decide))) fun a6 hv6 => wpList_nil ?_
  · simp only [List.mem_cons, List.not_mem_nil, or_false] at hu
    rcases hu with rfl | rfl | rfl <;> rfl
  generalize hw6 : w5.setRow _ _ = w6
  have hb6 : w6.heap[w4.heap.size]? = some (.cells #[.int .i64 (-1), .int .i64 0, .slice none 0 0] tToks (0, 0)) := by
    subst hw6
    exact heap_setRow_self hb5
  have hk6 : ∀ k, k ≠ w4.heap.size → w6.heap[k]? = w5.heap[k]? := fun k hk => by
    subst hw6
    exact heap_setRow_ne hk
  have hz6 : w6.heap.size = w5.heap.size := by
    subst hw6
    simp [World.setRow]
  have he6 : w6.os = w5.os ∧ w6.tape = w5.tape ∧ w6.output = w5.output := by
    subst hw6
    exact ⟨rfl, rfl, rfl⟩
  clear hw6
  refine wp_seq (wp_region_lit (l_call 37 #[.pointer (some ⟨w4.heap.size, 0, none⟩)] _ hv6 rfl rfl rfl (fun a hr => x_callv (by simp [hr.arg (x := .tmp 18) rfl]) (enter37 _ _)) (reset_calls w4.heap.size _ _ _ w6 hb6) fun a7 w7 hv7 hw7 => wpList_nil ?_))
  have hk7 : ∀ k, k ≠ w4.heap.size → w7.heap[k]? = w5.heap[k]? := fun k hk => by
    rw [hw7, Below.heap_setCell _ _ _ _ hk]
    exact hk6 k hk
  have hz7 : w7.heap.size = w5.heap.size := by
    rw [hw7]
    simp [World.setCell, hz6]
  have he7 : w7.os = w5.os ∧ w7.tape = w5.tape ∧ w7.output = w5.output := by
    rw [hw7]
    exact he6
  clear hw7 hb6 hk6 hz6 he6 hb5
  have lbp3 := lt_of_block hp3
  have hb3 : ∀ k, k < w3.heap.size → w7.heap[k]? = w3.heap[k]? := fun k hk => by
    rw [hk7 k (by omega), hg5.block k hk (by simp)]
  have hp7 := (hb3 _ lbp3).trans hp3
  have hres : w7.heap[w.heap.size]? = some (.cells #[.int .i64 0, .int .i64 0, .slice none 0 0] tToks (0, 0)) := by
    have : s.w0.heap.size = w.heap.size + 1 := hz1
    rw [hb3 _ (by omega), hPS3.block w.heap.size (by show w.heap.size < w.heap.size + 1; omega) (by show w.heap.size ≠ bp; omega)]
    exact hb1
  refine wp_seq (wp_region_lit ?_)
  refine l_env (.pointer (some ⟨bp, 0, none⟩)) w7 hv7 rfl rfl rfl (fun a hr => x_move (hr.arg rfl)) fun a8 hv8 => ?_
  refine l_env (.pointer (some ⟨bp, 0, none⟩)) w7 hv8 rfl rfl rfl (fun a hr => x_nil (hr.arg rfl)) fun a9 hv9 => ?_
  refine l_env (.pointer (some ⟨bp, 0 + 6, none⟩)) w7 hv9 rfl rfl rfl (fun a hr => x_field fP6 (hr.arg rfl)) fun a10 hv10 => ?_
  have hload : (Instr.loadAt tToks (.pointer (some ⟨bp, 0 + 6, none⟩))).run P w7 = .ok (.agg #[ix, .int .i64 0, secs]) w7 := load_toks (cell_of_block hp7 rfl) (cell_of_block hp7 rfl) (cell_of_block hp7 rfl)
  refine l_env (.agg #[ix, .int .i64 0, secs]) w7 hv10 rfl rfl rfl (fun a hr => by
    have h1 := hr.arg (x := .tmp 2597) rfl
    simp only [execOp, h1, Sem.run_bind, hload, Result.andThen_ok, Sem.run_pure]) fun a11 hv11 => ?_
  have hone : ∀ u ∈ [ix, .int .i64 0, secs], Value.oneCell' u = true := by
    intro u hu
    simp only [List.mem_cons, List.not_mem_nil, or_false] at hu
    rcases hu with rfl | rfl | rfl
    · exact hix
    · rfl
    · rcases hsec3 with ⟨rfl, -⟩ | ⟨_, _, _, _, rfl, -⟩ <;> rfl
  refine l_done _ hv11 rfl rfl (fun a hr => x_store (hr.arg rfl) (hr.arg rfl) (store_at size_toks (vs := [ix, .int .i64 0, secs]) rfl rfl hone hres (by decide))) fun a12 hv12 => wpList_nil (wp_ret ?_)
  generalize hw8 : w7.setRow _ _ = w8
  have hb8 : w8.heap[w.heap.size]? = some (.cells #[ix, .int .i64 0, secs] tToks (0, 0)) := by
    subst hw8
    exact heap_setRow_self hres
  have hk8 : ∀ k, k ≠ w.heap.size → k < w3.heap.size → w8.heap[k]? = w3.heap[k]? := fun k hk hlt => by
    subst hw8
    rw [heap_setRow_ne hk]
    exact hb3 k hlt
  have hz8 : w8.heap.size = w7.heap.size := by
    subst hw8
    simp [World.setRow]
  have he8 : w8.os = w7.os ∧ w8.tape = w7.tape ∧ w8.output = w7.output := by
    subst hw8
    exact ⟨rfl, rfl, rfl⟩
  have hsz : s.w0.heap.size = w.heap.size + 1 := hz1
  have hg5z := hg5.size
  refine ⟨hv12.defers, _, results_cell (T := tToks) (ad := ⟨w.heap.size, 0, none⟩) rfl _ ?_ (load_toks (cell_of_block hb8 rfl) (cell_of_block hb8 rfl) (cell_of_block hb8 rfl)), secs, rfl, ?_⟩
  · rw [Array.getD_eq_getD_getElem?, hv12.spot 2 _ rfl]
    rfl
  refine ⟨?_, ?_, ?_, by omega, fun k hk hkb => ?_, ⟨_, _, _, (hk8 bp (by omega) (by omega)).trans hp3⟩, hsec3.kept' fun k hk hlt => hk8 k (by omega) hlt⟩
  · rw [he8.1, he7.1, hg5.os, hPS3.os]
    exact he1.1
  · rw [he8.2.1, he7.2.1, hg5.tape, hPS3.tape]
    exact he1.2.1
  · rw [he8.2.2, he7.2.2, hg5.output, hPS3.output]
    exact he1.2.2
  · rw [hk8 k (by omega) (by omega), hPS3.block k (by show k < w.heap.size + 1; omega) hkb]
    exact ha1 k hk
end Go.Nfp
