/- The walks of fToken and of add: the token of a value and a type, put at the end of the list. -/
import Derived.Test.YtnboaaelhlbnpaaDoorAddRef
namespace Go.Nfp
open Go Go.Proofs Go.RowKit

/-- The cells of the tokens so far. -/
def tokCells (toks : List (List UInt8 × List UInt8)) : List Value := toks.flatMap fun p => [.string (bs p.1), .string (bs p.2), .slice none 0 0]

/-- The list of sections holds the tokens: none and no token, or one section with its own row of items. -/
def SecInv (B : Nat) (secs : Value) (toks : List (List UInt8 × List UInt8)) (w : World) : Prop :=
  (secs = .slice none 0 0 ∧ toks = []) ∨
  ∃ bsn cap cs items, secs = .slice (some ⟨bsn, 0, none⟩) 1 cap ∧ B ≤ bsn ∧ w.heap[bsn]? = some (.cells cs tSec (0, 0)) ∧ cs[0]? = some (.string ⟨#[80, 111, 115, 105, 116, 105, 118, 101]⟩) ∧ cs[1]? = some items ∧
    w.ownsRow (bsn + 1) tTok 3 items toks.length (tokCells toks)

/-- What adding a token does. -/
structure AddPost (B M bp : Nat) (pc : Array Value) (toks : List (List UInt8 × List UInt8)) (v t : List UInt8) (w w' : World) : Prop where
  os : w'.os = w.os
  tape : w'.tape = w.tape
  output : w'.output = w.output
  size : w.heap.size ≤ w'.heap.size
  block : ∀ k, k < w.heap.size → k ≠ bp → k < B ∨ M ≤ k → w'.heap[k]? = w.heap[k]?
  turned : ∃ secs, w'.heap[bp]? = some (.cells (pc.setIfInBounds 8 secs) tParser (0, 0)) ∧
    ∀ W : World, (∀ k, k < w'.heap.size → k ≠ bp → k < M ∨ w.heap.size ≤ k → W.heap[k]? = w'.heap[k]?) → SecInv B secs (toks ++ [(v, t)]) W

theorem tokCells_append (a b : List (List UInt8 × List UInt8)) : tokCells (a ++ b) = tokCells a ++ tokCells b := by simp [tokCells]

theorem set_same {cs : Array Value} {k : Nat} {v : Value} (h : cs[k]? = some v) : cs.setIfInBounds k v = cs := by
  apply Array.ext_getElem?
  intro i
  by_cases hik : k = i
  · subst hik
    have hk : k < cs.size := (Array.getElem?_eq_some_iff.1 h).1
    rw [Array.getElem?_setIfInBounds_self_of_lt hk, h]
  · rw [Array.getElem?_setIfInBounds_ne hik]

theorem owns_of_block {w W : World} {base e size n : Nat} {v : Value} {xs : List Value} (h : w.ownsRow base e size v n xs) (hb : ∀ k, v.ownBlock = some k → W.heap[k]? = w.heap[k]?) : W.ownsRow base e size v n xs := by
  refine ⟨h.1, ?_⟩
  rcases h.2 with h2 | ⟨g, cap, cur, rfl, h3, h4, h5⟩
  · exact .inl h2
  · exact .inr ⟨g, cap, cur, rfl, h3, (hb g rfl).trans h4, h5⟩

theorem SecInv.kept {B : Nat} {secs : Value} {toks : List (List UInt8 × List UInt8)} {w W : World} (h : SecInv B secs toks w) (hb : ∀ k, B ≤ k → k < w.heap.size → W.heap[k]? = w.heap[k]?) : SecInv B secs toks W := by
  rcases h with h | ⟨bsn, cap, cs, items, rfl, h1, hh, hc0, hc1, hown⟩
  · exact .inl h
  · exact .inr ⟨bsn, cap, cs, items, rfl, h1, (hb bsn h1 (lt_of_block hh)).trans hh, hc0, hc1, owns_of_block hown fun k hk => by
      have := hown.lt k hk
      exact hb k (by omega) this.2⟩

theorem SecInv.grown {B : Nat} {secs : Value} {toks : List (List UInt8 × List UInt8)} {w w' : World} (h : SecInv B secs toks w) (hg : w.grownBy w' none) : SecInv B secs toks w' := by
  rcases h with h | ⟨bsn, cap, cs, items, rfl, hb, hh, hc0, hc1, hown⟩
  · exact .inl h
  · exact .inr ⟨bsn, cap, cs, items, rfl, hb, (hg.block bsn (lt_of_block hh) (by simp)).trans hh, hc0, hc1, hown.kept hg (by cases items.ownBlock <;> simp)⟩

theorem addRef_calls (B M bp : Nat) (pc : Array Value) (secs : Value) (toks : List (List UInt8 × List UInt8)) (v t : List UInt8) (w0 w : World) (hg : w0.grownBy w none) (hM : w0.heap.size = M)
    (hB : B ≤ w0.heap.size) (hbp : bp < B) (hp : w.heap[bp]? = some (.cells pc tParser (0, 0))) (hp7 : pc[7]? = some (.int .i64 0)) (hp8 : pc[8]? = some secs) (hs0 : SecInv B secs toks w0) (hn : toks.length ≤ 1000) :
    Calls Tryd.prog 47 #[.pointer (some ⟨bp, 6, none⟩), .agg #[.string (bs v), .string (bs t), .slice none 0 0]] w fun e w' => e = .returned (.tuple #[]) ∧ AddPost B M bp pc toks v t w w' := by
  have hsz := hg.size
  rcases hs0 with ⟨rfl, rfl⟩ | ⟨bsn, cap, cs, items, rfl, hb, hh0, hc0, hc1, hown0⟩
  · refine (addRef_first bp pc (.string (bs v)) (.string (bs t)) w hp hp7 hp8 rfl rfl).mono ?_
    rintro e w' ⟨rfl, hf⟩
    obtain ⟨bsn, cap, cs, items, h1, h2, h3, h4, h5, h6, h7⟩ := hf.turned
    refine ⟨rfl, hf.os, hf.tape, hf.output, hf.size, fun k hk hne _ => hf.block k hk hne, _, h1, fun W hW => .inr ⟨bsn, cap, cs, items, rfl, by omega, (hW bsn (lt_of_block h3) (by omega) (.inr h2)).trans h3, h4, h5, owns_of_block (by simpa [tokCells] using h6) fun k hk => ?_⟩⟩
    have := h7 k hk
    exact hW k (h6.lt k hk).2 (by omega) (.inr this)
  · have hown : w.ownsRow (bsn + 1) tTok 3 items toks.length (tokCells toks) := hown0.kept hg (by cases items.ownBlock <;> simp)
    have hh := (hg.block bsn (lt_of_block hh0) (by simp)).trans hh0
    have lb := lt_of_block hh0
    have lo := hown0.lt
    refine (addRef_more bp bsn cap toks.length pc cs items (.string (bs v)) (.string (bs t)) (tokCells toks) w hp hp7 hp8 hh hc1 (by omega) hown hn rfl rfl).mono ?_
    rintro e w' ⟨rfl, ha⟩
    obtain ⟨items', h1, h2, h3⟩ := ha.turned
    have l1 : 1 < cs.size := (Array.getElem?_eq_some_iff.1 hc1).1
    refine ⟨rfl, ha.os, ha.tape, ha.output, ha.size, fun k hk hne hkB => ha.block k hk (by omega) (fun e => by have := lo _ e.symm; omega), .slice (some ⟨bsn, 0, none⟩) 1 cap, ?_, fun W hW => .inr ⟨bsn, cap, _, items', rfl, hb, (hW bsn (lt_of_block h1) (by omega) (.inl (by omega))).trans h1, by simpa using hc0, by simp [l1], ?_⟩⟩
    · rw [set_same hp8, ha.block bp (by omega) (by omega) (fun e => by have := lo _ e.symm; omega)]
      exact hp
    · rw [tokCells_append, List.length_append]
      refine owns_of_block h2 fun k hk => hW k (h2.lt k hk).2 (by have := (h2.lt k hk).1; omega) ?_
      rcases h3 with h3 | h3
      · rw [h3] at hk
        have := (lo k hk).2
        exact .inl (by omega)
      · exact .inr (h3 k hk)

theorem results_cell {fn : Func} {t T : Nat} (h : fn.results = #[.cell t T]) (tmps : Array Value) {P : Program} {w : World} {ad : Addr} {v : Value} (hp : tmps.getD t undef = .pointer (some ad)) (hl : (Instr.loadAt T (.pointer (some ad))).run P w = .ok v w) :
    (results fn tmps).run P w = .ok v w := by
  have h2 : (loadVar T ad).run P w = .ok v w := by
    simpa [Instr.loadAt, Instr.sureAddr] using hl
  have h3 : (asAddr (tmps.getD t undef)).run P w = .ok ad w := by
    rw [hp]
    rfl
  simp only [Array.getD_eq_getD_getElem?] at h3
  simp [results, h, h3, h2]

theorem load_tok {w : World} {b : Nat} {v t u : Value} {ty : TypeId} {fz : Nat × Nat} (h : w.heap[b]? = some (.cells #[v, t, u] ty fz)) : (Instr.loadAt tTok (.pointer (some ⟨b, 0, none⟩))).run P w = .ok (.agg #[v, t, u]) w := by
  refine aggB_load (ad := ⟨b, 0, none⟩) agg_tok (cs := [v, t, u]) rfl (fun j z hz => ?_)
  match j, hz with
  | 0, hz => simp at hz; subst hz; exact cell_of_block h rfl
  | 1, hz => simp at hz; subst hz; exact cell_of_block h rfl
  | 2, hz => simp at hz; subst hz; exact cell_of_block h rfl
  | n + 3, hz => simp at hz

set_option maxRecDepth 100000 in
theorem fToken_calls (v t : ByteArray) (w : World) :
    Calls Tryd.prog 46 #[.string v, .string t, .slice none 0 0] w fun e w' => e = .returned (.agg #[.string v, .string t, .slice none 0 0]) ∧ w.grownBy w' none := by
  go_enter Tryd.func46, Tryd.ntmps46
  go_wp2_with fail
  exact ⟨rfl, _, results_cell (T := tTok) rfl _ rfl (load_tok (heap_alloc_new w _)), rfl, World.grownBy_alloc w _ none⟩

set_option maxRecDepth 100000 in
theorem add_calls (B bp : Nat) (pc : Array Value) (secs : Value) (toks : List (List UInt8 × List UInt8)) (v t : List UInt8) (w : World)
    (hB : B ≤ w.heap.size) (hbp : bp < B) (hp : w.heap[bp]? = some (.cells pc tParser (0, 0))) (hp7 : pc[7]? = some (.int .i64 0)) (hp8 : pc[8]? = some secs) (hs : SecInv B secs toks w) (hn : toks.length ≤ 1000) :
    Calls Tryd.prog 31 #[.pointer (some ⟨bp, 6, none⟩), .string (bs v), .string (bs t), .slice none 0 0] w fun e w' => e = .returned (.agg #[.string (bs v), .string (bs t), .slice none 0 0]) ∧ AddPost B w.heap.size bp pc toks v t w w' := by
  go_enter Tryd.func31, Tryd.ntmps31
  go_wp2_with (go_at_call 46; refine (fToken_calls _ _ _).mono ?_; rintro e w1 ⟨rfl, hg1⟩)
  generalize hW2 : w1.alloc _ = W2
  have g1 : w.grownBy W2 none := by
    subst hW2
    have ga := World.grownBy_alloc w (.cells #[.string ⟨#[]⟩, .string ⟨#[]⟩, .slice none 0 0] 45) none
    have gb := World.grownBy_alloc w1 (.cells #[.string (bs v), .string (bs t), .slice none 0 0] 45) none
    have s1 := ga.size
    have s2 := hg1.size
    have s3 := gb.size
    exact ⟨hg1.os, hg1.tape, hg1.output, by omega, fun k hk hne => by rw [gb.block k (by omega) hne, hg1.block k (by omega) hne, ga.block k hk hne]⟩
  have s1 := (World.grownBy_alloc w (.cells #[.string ⟨#[]⟩, .string ⟨#[]⟩, .slice none 0 0] 45) none).size
  have a1 : (w.alloc (.cells #[.string ⟨#[]⟩, .string ⟨#[]⟩, .slice none 0 0] 45)).heap.size = w.heap.size + 1 := by simp
  have s2 := hg1.size
  have b9 : W2.heap[w1.heap.size]? = some (.cells #[.string (bs v), .string (bs t), .slice none 0 0] 45 (0, 0)) := by
    subst hW2
    exact heap_alloc_new w1 _
  have b8 : W2.heap[w.heap.size]? = some (.cells #[.string ⟨#[]⟩, .string ⟨#[]⟩, .slice none 0 0] 45 (0, 0)) := by
    subst hW2
    rw [Below.heap_alloc _ _ _ (by omega), hg1.block _ (by omega) (by simp)]
    exact heap_alloc_new w _
  have p2 := (g1.block bp (by omega) (by simp)).trans hp
  clear hW2
  refine (addRef_calls B w.heap.size bp pc secs toks v t w W2 g1 rfl hB hbp p2 hp7 hp8 hs hn).mono ?_
  rintro e W3 ⟨rfl, hA⟩
  have e9 := (hA.block _ (lt_of_block b9) (by omega) (.inr (by omega))).trans b9
  have e8 := (hA.block _ (lt_of_block b8) (by omega) (.inr (by omega))).trans b8
  have k0 : W3.cell? ⟨w1.heap.size, 0, none⟩ = some (.string (bs v)) := cell_of_block e9 rfl
  have k1 : W3.cell? ⟨w1.heap.size, 1, none⟩ = some (.string (bs t)) := cell_of_block e9 rfl
  have k2 : W3.cell? ⟨w1.heap.size, 2, none⟩ = some (.slice none 0 0) := cell_of_block e9 rfl
  have m0 : W3.cell? ⟨w.heap.size, 0, none⟩ = some (.string ⟨#[]⟩) := cell_of_block e8 rfl
  have m1 : W3.cell? ⟨w.heap.size, 1, none⟩ = some (.string ⟨#[]⟩) := cell_of_block e8 rfl
  have m2 : W3.cell? ⟨w.heap.size, 2, none⟩ = some (.slice none 0 0) := cell_of_block e8 rfl
  have f0 : W3.frozen? ⟨w.heap.size, 0, none⟩ = false := free_of_block e8
  have f1 : W3.frozen? ⟨w.heap.size, 1, none⟩ = false := free_of_block e8
  have f2 : W3.frozen? ⟨w.heap.size, 2, none⟩ = false := free_of_block e8
  go_wp2_with fail
  generalize hW4 : World.setCell _ _ _ = W4
  have e4 : W4.heap[w.heap.size]? = some (.cells #[.string (bs v), .string (bs t), .slice none 0 0] 45 (0, 0)) := by
    subst hW4
    exact block_setCell (block_setCell (block_setCell e8))
  have k4 : ∀ k, k ≠ w.heap.size → W4.heap[k]? = W3.heap[k]? := fun k hk => by
    subst hW4
    rw [Below.heap_setCell _ _ _ _ hk, Below.heap_setCell _ _ _ _ hk, Below.heap_setCell _ _ _ _ hk]
  have z4 : W4.heap.size = W3.heap.size := by
    subst hW4
    simp [World.setCell]
  have o4 : W4.os = W3.os ∧ W4.tape = W3.tape ∧ W4.output = W3.output := by
    subst hW4
    exact ⟨rfl, rfl, rfl⟩
  have g1s := g1.size
  have hAs := hA.size
  have s9 := lt_of_block b9
  have s8 := lt_of_block b8
  obtain ⟨secs', h1, h2⟩ := hA.turned
  refine ⟨rfl, _, results_cell (T := tTok) rfl _ rfl (load_tok e4), rfl, o4.1.trans (hA.os.trans g1.os), o4.2.1.trans (hA.tape.trans g1.tape), o4.2.2.trans (hA.output.trans g1.output), by omega, fun k hk hne hkB => ?_, secs', ?_, fun W hW => ?_⟩
  · rw [k4 k (by omega), hA.block k (by omega) hne hkB, g1.block k hk (by simp)]
  · rw [k4 bp (by omega)]
    exact h1
  · refine h2 W fun k hk hne hkk => ?_
    rw [hW k (by omega) hne (by omega), k4 k (by omega)]
end Go.Nfp
