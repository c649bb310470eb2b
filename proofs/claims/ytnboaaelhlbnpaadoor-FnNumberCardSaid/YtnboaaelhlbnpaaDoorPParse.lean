/- The walk of (*Parser).Parse at an ASCII text that TrimSpace hands back. -/
import Derived.Test.YtnboaaelhlbnpaaDoorGetTokens
import Derived.Test.YtnboaaelhlbnpaaDoorTrim
import Derived.Laws.IdiomStrings
namespace Go.Nfp
open Go Go.Proofs Go.RowKit

theorem runes_ascii (s : ByteArray) (hs : ∀ i (h : i < s.size), (s[i]'h).toNat < 128) : ∀ (bound i : Nat) (acc : Array Value), i + bound = s.size →
    Conv.runesFrom s bound i acc = acc ++ ((s.data.toList.drop i).map fun b => Value.int .i32 (b.toNat : Int)).toArray
  | 0, i, acc, h => by
    have h1 : s.data.toList.length = s.size := Array.length_toList
    simp [Conv.runesFrom, List.drop_eq_nil_of_le (show s.data.toList.length ≤ i by omega)]
  | bound + 1, i, acc, h => by
    have hi : i < s.size := by omega
    have h1 : s.data.toList.length = s.size := Array.length_toList
    have h2 : s.data.toList.drop i = s[i]'hi :: s.data.toList.drop (i + 1) := by
      rw [List.drop_eq_getElem_cons (by omega)]
      congr 1
    unfold Conv.runesFrom
    rw [if_pos hi, decode_ascii s i hi (hs i hi)]
    simp only
    rw [runes_ascii s hs bound (i + 1) _ (by omega), h2]
    simp

def runeCells (rs : List UInt8) : List Value := rs.map fun b => Value.int .i32 (b.toNat : Int)

/-- []rune(s) at an ASCII text. -/
theorem convert_runes (rs : List UInt8) (hs : ∀ c ∈ rs, c.toNat < 128) (hl : rs.length ≤ 1000) (w : World) :
    ∃ (cap : Nat) (cs : Array Value), rs.length ≤ cap ∧ (∀ (i : Nat) (c : UInt8), rs[i]? = some c → cs[i]? = some (.int .i32 (c.toNat : Int))) ∧
      (convert 9 39 (.string (bs rs))).run P w = .ok (.slice (some ⟨w.heap.size, 0, none⟩) rs.length cap) (w.drew.alloc (.cells cs 21)) := by
  have h1 : Conv.runesFrom (bs rs) (bs rs).size 0 #[] = (runeCells rs).toArray := by
    rw [runes_ascii (bs rs) (fun i hi => hs _ (bs_get rs i hi)) _ 0 _ (by omega)]
    simp [bs, runeCells]
  have hsz : (Conv.runesFrom (bs rs) (bs rs).size 0 #[]).size = rs.length := by simp [h1, runeCells]
  have h := run_runes_of_string (P := P) w 9 39 21 (bs rs) T9 (by kernel_rfl) (by kernel_rfl) (by rw [hsz]; omega)
  rw [hsz] at h
  refine ⟨_, _, ?_, ?_, h⟩
  · exact grownCap_ge _ _ _ _
  · intro i c hc
    have hi : i < rs.length := (List.getElem?_eq_some_iff.1 hc).1
    rw [h1, Array.getElem?_append]
    have hc2 : rs[i]'hi = c := (List.getElem?_eq_some_iff.1 hc).2
    simp [runeCells, hi, hc2]

def zcells : Array Value := #[.bool false, .bool false, .bool false, .string ⟨#[]⟩, .slice none 0 0, .int .i64 0, .int .i64 0, .int .i64 0, .slice none 0 0, .string ⟨#[]⟩, .string ⟨#[]⟩, .slice none 0 0]

def fcells (fmt : Value) : Array Value := #[.bool false, .bool false, .bool false, fmt, .slice none 0 0, .int .i64 0, .int .i64 0, .int .i64 0, .slice none 0 0, .string ⟨#[]⟩, .string ⟨#[]⟩, .slice none 0 0]

/-- What is asked of a text: ASCII; short; its ends no white space; the rounds over it, and what stands behind them. -/
structure Reads (rs : List UInt8) (toks : Toks) : Prop where
  ascii : ∀ c ∈ rs, c.toNat < 128
  len : rs.length ≤ 1000
  ends : ∃ c d m, rs = c :: m ∧ rs.getLast? = some d ∧ Lib.isSp c = false ∧ Lib.isSp d = false
  scan : ∃ n tvE ttE toksE stF, Scan rs tvE ttE toksE n 0 [] [] [] ∧ stF.toks = toks ∧
    ∀ rb, stOf (runC gtail (env0 rb) ⟨0, tvE, 100, ttE, toksE, some ⟨true, [], [], []⟩, 4⟩) = some (.normal, stF, some (.ps 0), some (.res rb))

/-- What Parse leaves behind. -/
structure Parsed (bp : Nat) (secs : Value) (toks : Toks) (w w' : World) : Prop where
  os : w'.os = w.os
  tape : w'.tape = w.tape
  output : w'.output = w.output
  size : w.heap.size ≤ w'.heap.size
  block : ∀ k, k < w.heap.size → k ≠ bp → w'.heap[k]? = w.heap[k]?
  secs : SecInv w.heap.size secs toks w'

theorem enter20 (w : World) (args : Array Value) : (callFunc 20 args).run P w = .ok (.enter 20 args) w := by kernel_rfl
theorem enter21 (w : World) (args : Array Value) : (callFunc 21 args).run P w = .ok (.enter 21 args) w := by kernel_rfl
theorem size_runes : sizeB 39 = some 1 := by kernel_rfl
theorem x_assign {a : Act} {W : World} {dst : Option Tmp} {ty : TypeId} {pos : String} {aft : Array Edge} {gd : Option (Nat × Bool)} {x : Operand} {v : Value} (hx : a.eval x = v) : (execOp a.eval ⟨dst, .assign x, ty, pos, aft, gd⟩).run P W = .ok (.value v) W := by simp [execOp, hx]
theorem x_convert {a : Act} {W W' : World} {dst : Option Tmp} {ty : TypeId} {pos : String} {aft : Array Edge} {gd : Option (Nat × Bool)} {x : Operand} {u v : Value} {S T : Nat} (hx : a.eval x = u) (h : (convert S T u).run P W = .ok v W') :
    (execOp a.eval ⟨dst, .convert S T x, ty, pos, aft, gd⟩).run P W = .ok (.value v) W' := by simp [execOp, hx, h]
section
variable {ops : Array Oper} {a : Act} {o : Oper} {rest : List Oper} {w : World} {N t : Nat} {env : VEnv} {Q : Exit → Act → World → Prop}
theorem l_calls (f : Nat) (args : Array Value) {R : Ending → World → Prop} (hr : VRel N env a) (hg : o.guard = none) (hd : o.dst = some t) (ht : Nat.blt t N = true) (hrun : ∀ a, VRel N env a → (execOp a.eval o).run P w = .ok (.enter f args) w)
    (hc : Calls P f args w R) (h : ∀ e w', R e w' → ∃ v, e = .returned v ∧ ∀ a', VRel N ((t, v) :: env) a' → wpList P ops Q rest a' w') : wpList P ops Q (o :: rest) a w := by
  unfold wpList
  rw [if_pos (by simp [Region.wanted, hg])]
  refine .inl ?_
  unfold Oper.wp
  rw [hrun a hr, Oper.upon_enter]
  refine hc.mono fun e w' hR => ?_
  obtain ⟨v, rfl, h2⟩ := h e w' hR
  simp only [hd]
  exact h2 _ (hr.put ht v)
end

theorem parse_calls (bp : Nat) (rs : List UInt8) (toks : Toks) (hR : Reads rs toks) (w : World) (hp : w.heap[bp]? = some (.cells zcells tParser (0, 0))) (htab : Lib.TabIs P w "strings.asciiSpace" .u8 Lib.asciiSpaceTab) :
    Calls Tryd.prog 16 #[.pointer (some ⟨bp, 0, none⟩), .string (bs rs)] w fun e w' => ∃ secs, e = .returned secs ∧ Parsed bp secs toks w w' := by
  have lbp := lt_of_block hp
  have htrim : ∀ w, Lib.TabIs P w "strings.asciiSpace" .u8 Lib.asciiSpaceTab → Calls Tryd.prog 20 #[.string (bs rs)] w fun e w' => e = .returned (.string (bs rs)) ∧ Below w.heap.size w w' := by
    intro w ht
    obtain ⟨c, d, m, hm, hd, hc1, hd1⟩ := hR.ends
    have hsz : (bs rs).size = rs.length := bs_size rs
    have hl := hR.len
    have hpos : 0 < rs.length := by rw [hm]; simp
    refine trim_calls (bs rs) w (by omega) (by omega) c d ?_ ?_ (hR.ascii c (by rw [hm]; simp)) (hR.ascii d (List.mem_of_getLast? hd)) hc1 hd1 ht
    · simp [bs, hm]
    · intro h
      have h9 : rs[rs.length - 1]? = some d := by rw [← hd, List.getLast?_eq_getElem?]
      have h8 : (bs rs).data.toList = rs := by simp [bs]
      have h7 : (bs rs)[(bs rs).size - 1]'h = (bs rs).data.toList[(bs rs).size - 1]'(by rw [h8]; omega) := by simp [ByteArray.getElem_eq_getElem_data]
      rw [h7]
      simp only [h8, hsz]
      exact (List.getElem?_eq_some_iff.1 h9).2
  refine calls_of_wp Tryd.func16 rfl ?_
  have hr : VRel 28 [(1, .string (bs rs)), (0, .pointer (some ⟨bp, 0, none⟩))] { tmps := #[.pointer (some ⟨bp, 0, none⟩), .string (bs rs)] ++ Array.replicate (Tryd.f16.ntmps - (#[.pointer (some ⟨bp, 0, none⟩), .string (bs rs)] : Array Value).size) undef, defers := [] } := by
    refine ((VRel.of ?_ rfl).also ?_).also ?_
    · rw [Tryd.ntmps16]
      simp
    · simp
    · simp
  generalize ({ tmps := _, defers := [] } : Act) = a0 at hr ⊢
  refine wp_seq (wp_region_lit (l_env (.slice none 0 0) w hr rfl rfl rfl (fun a hr => x_assign (hr.arg rfl)) fun a hr => wpList_nil ?_))
  refine wp_seq (wp_region_lit ?_)
  refine l_env (.pointer (some ⟨bp, 0, none⟩)) w hr rfl rfl rfl (fun a hr => x_move (hr.arg rfl)) fun a hr => ?_
  refine l_env (.string (bs rs)) w hr rfl rfl rfl (fun a hr => x_move (hr.arg rfl)) fun a hr => ?_
  refine l_call 20 #[.string (bs rs)] _ hr rfl rfl rfl (fun a hr => x_callv (by simp [hr.arg (x := .tmp 6) rfl]) (enter20 _ _)) (htrim w htab) fun a w1 hr hB1 => ?_
  have p1 := (hB1.block bp lbp).trans hp
  refine l_env (.pointer (some ⟨bp, 0, none⟩)) w1 hr rfl rfl rfl (fun a hr => x_nil (hr.arg rfl)) fun a hr => ?_
  refine l_env (.pointer (some ⟨bp, 0 + 3, none⟩)) w1 hr rfl rfl rfl (fun a hr => x_field fP3 (hr.arg rfl)) fun a hr => ?_
  refine l_done _ hr rfl rfl (fun a hr => x_store (hr.arg rfl) (hr.arg rfl) (store_at size_str (vs := [.string (bs rs)]) rfl rfl (by simp [Value.oneCell']) p1 (by decide))) fun a hr => wpList_nil ?_
  generalize hw2 : w1.setRow bp _ = w2
  have p2 : w2.heap[bp]? = some (.cells (fcells (.string (bs rs))) tParser (0, 0)) := by
    subst hw2
    exact heap_setRow_self p1
  have n2 : ∀ k, k ≠ bp → w2.heap[k]? = w1.heap[k]? := fun k hk => by
    subst hw2
    exact heap_setRow_ne hk
  have z2 : w2.heap.size = w1.heap.size := by
    subst hw2
    simp [World.setRow]
  have e2 : w2.os = w1.os ∧ w2.tape = w1.tape ∧ w2.output = w1.output := by
    subst hw2
    exact ⟨rfl, rfl, rfl⟩
  clear hw2
  refine wp_seq (wp_region_lit ?_)
  refine l_env (.pointer (some ⟨bp, 0, none⟩)) w2 hr rfl rfl rfl (fun a hr => x_move (hr.arg rfl)) fun a hr => ?_
  refine l_env (.pointer (some ⟨bp, 0, none⟩)) w2 hr rfl rfl rfl (fun a hr => x_move (hr.arg rfl)) fun a hr => ?_
  refine l_env (.pointer (some ⟨bp, 0, none⟩)) w2 hr rfl rfl rfl (fun a hr => x_nil (hr.arg rfl)) fun a hr => ?_
  refine l_env (.pointer (some ⟨bp, 0 + 3, none⟩)) w2 hr rfl rfl rfl (fun a hr => x_field fP3 (hr.arg rfl)) fun a hr => ?_
  refine l_env (.string (bs rs)) w2 hr rfl rfl rfl (fun a hr => x_load plain_str (hr.arg rfl) (cell_of_block p2 rfl)) fun a hr => ?_
  obtain ⟨cap, cs, hcap, hcs, hconv⟩ := convert_runes rs hR.ascii hR.len w2
  refine l_env (.slice (some ⟨w2.heap.size, 0, none⟩) rs.length cap) (w2.drew.alloc (.cells cs 21)) hr rfl rfl rfl (fun a hr => x_convert (hr.arg rfl) hconv) fun a hr => ?_
  have b3 : (w2.drew.alloc (.cells cs 21)).heap[w2.heap.size]? = some (.cells cs 21 (0, 0)) := heap_alloc_new w2.drew _
  have n3 : ∀ k, k < w2.heap.size → (w2.drew.alloc (.cells cs 21)).heap[k]? = w2.heap[k]? := fun k hk => Below.heap_alloc w2.drew _ k hk
  generalize hw3 : w2.drew.alloc (.cells cs 21) = w3 at b3 n3 ⊢
  have z3 : w3.heap.size = w2.heap.size + 1 := by
    subst hw3
    show (w2.heap.push _).size = _
    simp
  have e3 : w3.os = w2.os ∧ w3.tape = w2.tape ∧ w3.output = w2.output := by
    subst hw3
    exact ⟨rfl, rfl, rfl⟩
  clear hw3 hconv
  have lbp2 := lt_of_block p2
  have p3 := (n3 bp lbp2).trans p2
  refine l_env (.pointer (some ⟨bp, 0, none⟩)) w3 hr rfl rfl rfl (fun a hr => x_nil (hr.arg rfl)) fun a hr => ?_
  refine l_env (.pointer (some ⟨bp, 0 + 4, none⟩)) w3 hr rfl rfl rfl (fun a hr => x_field fP4 (hr.arg rfl)) fun a hr => ?_
  refine l_done _ hr rfl rfl (fun a hr => x_store (hr.arg rfl) (hr.arg rfl) (store_at size_runes (vs := [.slice (some ⟨w2.heap.size, 0, none⟩) rs.length cap]) rfl rfl (by simp [Value.oneCell']) p3 (by show 0 + 4 + 1 ≤ 12; decide))) fun a hr => wpList_nil ?_
  generalize hw4 : w3.setRow bp _ = w4
  have p4 : w4.heap[bp]? = some (.cells (pcells (.string (bs rs)) w2.heap.size rs.length cap 0 (.int .i64 0) (.slice none 0 0) [] []) tParser (0, 0)) := by
    subst hw4
    exact heap_setRow_self p3
  have n4 : ∀ k, k ≠ bp → w4.heap[k]? = w3.heap[k]? := fun k hk => by
    subst hw4
    exact heap_setRow_ne hk
  have z4 : w4.heap.size = w3.heap.size := by
    subst hw4
    simp [World.setRow]
  have e4 : w4.os = w3.os ∧ w4.tape = w3.tape ∧ w4.output = w3.output := by
    subst hw4
    exact ⟨rfl, rfl, rfl⟩
  clear hw4
  obtain ⟨n, tvE, ttE, toksE, stF, hscan, hst, hend⟩ := hR.scan
  have hb1s := hB1.size
  have b4 := (n4 w2.heap.size (by omega)).trans b3
  have htok := getTokens_calls bp w2.heap.size cap rs (.string (bs rs)) (.int .i64 0) w4 p4 (by omega) (by omega) (fun i c hc => cell_of_block b4 (hcs i c hc)) (fun i c hc => hR.ascii c (List.mem_of_getElem? hc)) hR.len hcap rfl hscan hend
  refine wp_seq (wp_region_lit ?_)
  refine l_env (.pointer (some ⟨bp, 0, none⟩)) w4 hr rfl rfl rfl (fun a hr => x_move (hr.arg rfl)) fun a hr => ?_
  refine l_env (.pointer (some ⟨bp, 0, none⟩)) w4 hr rfl rfl rfl (fun a hr => x_move (hr.arg rfl)) fun a hr => ?_
  refine l_calls 21 #[.pointer (some ⟨bp, 0, none⟩)] hr rfl rfl rfl (fun a hr => x_callv (by simp [hr.arg (x := .tmp 19) rfl]) (enter21 _ _)) htok ?_
  rintro e w5 ⟨secs, rfl, hT⟩
  refine ⟨_, rfl, fun a hr => ?_⟩
  obtain ⟨off, tv, tt, p5⟩ := hT.parser
  have z5 := hT.size
  have hone : ∀ u ∈ [Value.int .i64 0, .int .i64 0, secs], Value.oneCell' u = true := by
    intro u hu
    simp only [List.mem_cons, List.not_mem_nil, or_false] at hu
    rcases hu with rfl | rfl | rfl
    · rfl
    · rfl
    · rcases hT.secs with ⟨rfl, -⟩ | ⟨_, _, _, _, rfl, -⟩ <;> rfl
  refine l_env (.pointer (some ⟨bp, 0, none⟩)) w5 hr rfl rfl rfl (fun a hr => x_nil (hr.arg rfl)) fun a hr => ?_
  refine l_env (.pointer (some ⟨bp, 0 + 6, none⟩)) w5 hr rfl rfl rfl (fun a hr => x_field fP6 (hr.arg rfl)) fun a hr => ?_
  refine l_done _ hr rfl rfl (fun a hr => x_store (hr.arg rfl) (hr.arg rfl) (store_at size_toks (vs := [.int .i64 0, .int .i64 0, secs]) rfl rfl hone p5 (by show 0 + 6 + 3 ≤ 12; decide))) fun a hr => wpList_nil ?_
  generalize hw6 : w5.setRow bp _ = w6
  have p6 : w6.heap[bp]? = some (.cells (pcells (.string (bs rs)) w2.heap.size rs.length cap off (.int .i64 0) secs tv tt) tParser (0, 0)) := by
    subst hw6
    exact heap_setRow_self p5
  have n6 : ∀ k, k ≠ bp → w6.heap[k]? = w5.heap[k]? := fun k hk => by
    subst hw6
    exact heap_setRow_ne hk
  have z6 : w6.heap.size = w5.heap.size := by
    subst hw6
    simp [World.setRow]
  have e6 : w6.os = w5.os ∧ w6.tape = w5.tape ∧ w6.output = w5.output := by
    subst hw6
    exact ⟨rfl, rfl, rfl⟩
  clear hw6
  refine wp_seq (wp_region_lit ?_)
  refine l_env (.pointer (some ⟨bp, 0, none⟩)) w6 hr rfl rfl rfl (fun a hr => x_move (hr.arg rfl)) fun a hr => ?_
  refine l_env (.pointer (some ⟨bp, 0, none⟩)) w6 hr rfl rfl rfl (fun a hr => x_nil (hr.arg rfl)) fun a hr => ?_
  refine l_env (.pointer (some ⟨bp, 0 + 6, none⟩)) w6 hr rfl rfl rfl (fun a hr => x_field fP6 (hr.arg rfl)) fun a hr => ?_
  refine l_env (.pointer (some ⟨bp, 0 + 6 + 2, none⟩)) w6 hr rfl rfl rfl (fun a hr => x_field fS2 (hr.arg rfl)) fun a hr => ?_
  refine l_env secs w6 hr rfl rfl rfl (fun a hr => x_load plain_secs (hr.arg rfl) (cell_of_block p6 rfl)) fun a hr => ?_
  refine l_env secs w6 hr rfl rfl rfl (fun a hr => x_assign (hr.arg rfl)) fun a hr => wpList_nil (wp_ret ?_)
  refine ⟨hr.defers, _, results_tmp rfl _ _ _, secs, ?_, ?_⟩
  · rw [Array.getD_eq_getD_getElem?, hr.spot 4 _ rfl]
    rfl
  refine ⟨?_, ?_, ?_, by omega, fun k hk hne => ?_, ?_⟩
  · rw [e6.1, hT.os, e4.1, e3.1, e2.1, hB1.os]
  · rw [e6.2.1, hT.tape, e4.2.1, e3.2.1, e2.2.1, hB1.tape]
  · rw [e6.2.2, hT.output, e4.2.2, e3.2.2, e2.2.2, hB1.output]
  · rw [n6 k hne, hT.block k (by omega) hne, n4 k hne, n3 k (by omega), n2 k hne, hB1.block k hk]
  · rw [← hst]
    have h9 := hT.secs
    rcases h9 with h | ⟨bsn, cap, cs, items, rfl, h1, h2⟩
    · exact .inl h
    · refine SecInv.kept (w := w5) (.inr ⟨bsn, cap, cs, items, rfl, by omega, h2⟩) fun k hk _ => n6 k (by omega)
end Go.Nfp
