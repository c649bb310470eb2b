/- The parser in memory: its block, its sections and their items, the runes; that what the executor asks of it holds. -/
import Derived.Test.YtnboaaelhlbnpaaDoorSound5
import Derived.Test.YtnboaaelhlbnpaaDoorAdd
import Derived.Test.YtnboaaelhlbnpaaDoorEnter
import Derived.Test.YtnboaaelhlbnpaaDoorCallee1
import Derived.Test.YtnboaaelhlbnpaaDoorHas
import Derived.Test.YtnboaaelhlbnpaaDoorUpper
import Derived.Test.YtnboaaelhlbnpaaDoorFold
import Derived.Laws.CopyRow
namespace Go.Nfp
open Go Go.Proofs Go.RowKit

def pcells (fmt : Value) (br n cr off : Nat) (ix secs : Value) (tv tt : List UInt8) : Array Value :=
  #[.bool false, .bool false, .bool false, fmt, .slice (some ⟨br, 0, none⟩) n cr, .int .i64 off, ix, .int .i64 0, secs, .string (bs tv), .string (bs tt), .slice none 0 0]

/-- What a look at the runes says: is the offset behind them; which rune stands there; which two. -/
structure LookAt (rs : List UInt8) (o : Nat) (k : Look) : Prop where
  eof : k.eof = decide (rs.length ≤ o)
  cur : k.eof = false → ∃ c, rs[o]? = some c ∧ k.cur = [c]
  dbl : k.dbl ≠ [] → ∃ c d, rs[o]? = some c ∧ rs[o + 1]? = some d ∧ k.dbl = [c, d]

/-- Where the parser and its runes lie, in a world that stood ahead. -/
structure Site where
  B : Nat
  bp : Nat
  br : Nat
  cr : Nat
  rs : List UInt8
  fmt : Value
  ix : Value
  w0 : World

structure Site.Ok (s : Site) : Prop where
  hbp : s.bp < s.B
  hB : s.B ≤ s.w0.heap.size
  hbr : s.br < s.B
  hne : s.br ≠ s.bp
  runes : ∀ (i : Nat) (c : UInt8), s.rs[i]? = some c → s.w0.cell? ⟨s.br, i, none⟩ = some (.int .i32 c.toNat)
  ascii : ∀ (i : Nat) (c : UInt8), s.rs[i]? = some c → c.toNat < 128
  len : s.rs.length ≤ 1000
  cap : s.rs.length ≤ s.cr

structure PS (s : Site) (o0 : Nat) (st : St) (w : World) : Prop where
  os : w.os = s.w0.os
  tape : w.tape = s.w0.tape
  output : w.output = s.w0.output
  size : s.w0.heap.size ≤ w.heap.size
  block : ∀ k, k < s.B → k ≠ s.bp → w.heap[k]? = s.w0.heap[k]?
  parser : ∃ secs, w.heap[s.bp]? = some (.cells (pcells s.fmt s.br s.rs.length s.cr (o0 + st.d) s.ix secs st.tv st.tt) tParser (0, 0)) ∧ SecInv s.B secs st.toks w
  small : st.tv.length ≤ st.tvb ∧ st.tvb ≤ 4096 ∧ st.tt.length ≤ 64
  room : st.toks.length + st.left ≤ 1000
  look : ∀ k, st.look = some k → LookAt s.rs (o0 + st.d) k

section
variable {s : Site} {o0 : Nat} {st : St} {w w' : World}

theorem PS.same (h : PS s o0 st w) (hs : s.Ok) (h1 : w'.os = w.os) (h2 : w'.tape = w.tape) (h3 : w'.output = w.output) (h4 : w.heap.size ≤ w'.heap.size) (h5 : ∀ k, k < w.heap.size → w'.heap[k]? = w.heap[k]?) : PS s o0 st w' := by
  obtain ⟨secs, hp, hi⟩ := h.parser
  have hB := hs.hB
  have hz := h.size
  exact ⟨h1.trans h.os, h2.trans h.tape, h3.trans h.output, by omega, fun k hk hne => (h5 k (by omega)).trans (h.block k hk hne), ⟨secs, (h5 _ (lt_of_block hp)).trans hp, hi.kept fun k _ hk => h5 k hk⟩, h.small, h.room, h.look⟩

theorem PS.below (h : PS s o0 st w) (hs : s.Ok) (hb : Below w.heap.size w w') : PS s o0 st w' := h.same hs hb.os hb.tape hb.output hb.size hb.block

theorem PS.drewN (h : PS s o0 st w) (hs : s.Ok) (k : Nat) : PS s o0 st (w.drewN k) := h.same hs rfl rfl rfl (Nat.le_refl _) fun _ _ => rfl

theorem PS.cell (h : PS s o0 st w) {k : Nat} {v : Value} (hk : ∀ secs, (pcells s.fmt s.br s.rs.length s.cr (o0 + st.d) s.ix secs st.tv st.tt)[k]? = some v) : w.cell? ⟨s.bp, k, none⟩ = some v := by
  obtain ⟨secs, hp, -⟩ := h.parser
  exact cell_of_block hp (hk secs)

theorem PS.rune (h : PS s o0 st w) (hs : s.Ok) {i : Nat} {c : UInt8} (hc : s.rs[i]? = some c) : w.cell? ⟨s.br, i, none⟩ = some (.int .i32 c.toNat) := by
  rw [World.cell?_of_block (h.block s.br hs.hbr hs.hne)]
  exact hs.runes i c hc

/-- A store into the parser's block that leaves cells 0 to 4, 6 to 8 and 11. -/
theorem PS.turn (h : PS s o0 st w) (hs : s.Ok) {st' : St} (h1 : w'.os = w.os) (h2 : w'.tape = w.tape) (h3 : w'.output = w.output) (h4 : w'.heap.size = w.heap.size) (h5 : ∀ k, k ≠ s.bp → w'.heap[k]? = w.heap[k]?)
    (h6 : ∀ secs, w.heap[s.bp]? = some (.cells (pcells s.fmt s.br s.rs.length s.cr (o0 + st.d) s.ix secs st.tv st.tt) tParser (0, 0)) → w'.heap[s.bp]? = some (.cells (pcells s.fmt s.br s.rs.length s.cr (o0 + st'.d) s.ix secs st'.tv st'.tt) tParser (0, 0)))
    (ht : st'.toks = st.toks) (hl : st'.left = st.left) (hsm : st'.tv.length ≤ st'.tvb ∧ st'.tvb ≤ 4096 ∧ st'.tt.length ≤ 64) (hlk : ∀ k, st'.look = some k → LookAt s.rs (o0 + st'.d) k) : PS s o0 st' w' := by
  obtain ⟨secs, hp, hi⟩ := h.parser
  have hbp := hs.hbp
  have hB := hs.hB
  refine ⟨h1.trans h.os, h2.trans h.tape, h3.trans h.output, by have := h.size; omega, fun k hk hne => (h5 k hne).trans (h.block k hk hne), ⟨secs, h6 secs hp, ?_⟩, hsm, ?_, hlk⟩
  · rw [ht]
    exact hi.kept fun k hk _ => h5 k (by omega)
  · rw [ht, hl]
    exact h.room
end

theorem heap_setRow_self {w : World} {b : Nat} {cs cur : Array Value} {ty : TypeId} {fz : Nat × Nat} (h : w.heap[b]? = some (.cells cur ty fz)) : (w.setRow b cs).heap[b]? = some (.cells cs ty fz) := by
  simp [World.setRow, Array.getElem?_modify, h]
theorem heap_setRow_ne {w : World} {b k : Nat} {cs : Array Value} (h : k ≠ b) : (w.setRow b cs).heap[k]? = w.heap[k]? := by
  simp only [World.setRow, Array.getElem?_modify]
  rw [if_neg (by omega)]

theorem store_at {T n : Nat} (hT : sizeB T = some n) {v : Value} {vs : List Value} (hcs : v.cells = vs.toArray) (hl : vs.length = n) (h1 : ∀ u ∈ vs, u.oneCell' = true) {w : World} {b k : Nat} {cur : Array Value} {ty : TypeId}
    (hb : w.heap[b]? = some (.cells cur ty (0, 0))) (hfit : k + n ≤ cur.size) :
    (Instr.storeAt T (.pointer (some ⟨b, k, none⟩)) v).run P w = .ok () (w.setRow b (cur.toList.take k ++ vs ++ cur.toList.drop (k + n)).toArray) := by
  unfold sizeB at hT
  cases hi : P.info? T with
  | none => rw [hi] at hT; cases hT
  | some i =>
    rw [hi] at hT
    simp only [Option.map_some, Option.some.injEq] at hT
    have h := run_storeCells_at P b k ty vs 0 cur w hb (by simp only [Nat.add_zero]; omega) h1
    simp only [Nat.add_zero, hl] at h
    simp [Instr.storeAt, Instr.sureAddr, storeVar, sizeOf, typeInfo, hi, hT, hcs, hl, h]
theorem size_tok : sizeB tTok = some 3 := by kernel_rfl
theorem size_str : sizeB tStr = some 1 := by kernel_rfl
theorem size_int : sizeB tInt = some 1 := by kernel_rfl

theorem PS.store {s : Site} (hs : s.Ok) {o0 : Nat} {st st' : St} {w : World} {T k : Nat} {x : AV} (h : PS s o0 st w) (hc : storeC st T k x = some st') (hx : x.ok) :
    ∃ w', (Instr.storeAt T (.pointer (some ⟨s.bp, k, none⟩)) (x.conc s.bp o0)).run P w = .ok () w' ∧ PS s o0 st' w' := by
  obtain ⟨secs, hp, -⟩ := h.parser
  have one : ∀ {v : Value}, sizeB T = some 1 → v.cells = #[v] → v.oneCell' = true → k + 1 ≤ 12 →
      (Instr.storeAt T (.pointer (some ⟨s.bp, k, none⟩)) v).run P w = .ok () (w.setRow s.bp ((pcells s.fmt s.br s.rs.length s.cr (o0 + st.d) s.ix secs st.tv st.tt).toList.take k ++ [v] ++ (pcells s.fmt s.br s.rs.length s.cr (o0 + st.d) s.ix secs st.tv st.tt).toList.drop (k + 1)).toArray) :=
    fun hT hcs h1 hk => store_at hT hcs rfl (by simpa using h1) hp hk
  have hp' : ∀ secs', w.heap[s.bp]? = some (.cells (pcells s.fmt s.br s.rs.length s.cr (o0 + st.d) s.ix secs' st.tv st.tt) tParser (0, 0)) → secs' = secs := by
    intro secs' h'
    rw [hp] at h'
    simp only [Option.some.injEq, Obj.cells.injEq, and_true, pcells] at h'
    simpa using h'.symm
  unfold storeC at hc
  split at hc
  · rename_i v b t
    replace hc := cond_some hc
    obtain ⟨hb, hc⟩ := hc
    simp only [Option.some.injEq] at hc
    simp only [Bool.and_eq_true] at hb
    obtain ⟨⟨⟨hT, hk⟩, hb1⟩, ht⟩ := hb
    have e1 := Nat.eq_of_beq_eq_true hT
    have e2 := Nat.eq_of_beq_eq_true hk
    have e3 := Nat.le_of_ble_eq_true hb1
    have e4 := Nat.le_of_ble_eq_true ht
    subst e1; subst e2; subst hc
    refine ⟨_, store_at size_tok (vs := [.string (bs v), .string (bs t), .slice none 0 0]) rfl rfl (fun u hu => ?_) hp (by show 9 + 3 ≤ 12; decide), ?_⟩
    · simp only [List.mem_cons, List.not_mem_nil, or_false] at hu
      rcases hu with rfl | rfl | rfl <;> rfl
    · refine h.turn hs (st' := { st with tv := v, tvb := b, tt := t }) rfl rfl rfl (by simp [World.setRow]) (fun k hk => heap_setRow_ne hk) (fun secs' h' => ?_) rfl rfl ⟨hx.1, e3, e4⟩ h.look
      rw [hp' secs' h']
      exact heap_setRow_self hp
  · rename_i l b
    cases h1 : Nat.beq T tStr && Nat.beq k 9 && Nat.ble b 4096 with
    | true =>
      rw [h1] at hc
      simp only [cond_true, Option.some.injEq] at hc
      simp only [Bool.and_eq_true] at h1
      obtain ⟨⟨hT, hk⟩, hb1⟩ := h1
      have e1 := Nat.eq_of_beq_eq_true hT
      have e2 := Nat.eq_of_beq_eq_true hk
      have e3 := Nat.le_of_ble_eq_true hb1
      subst e1; subst e2; subst hc
      refine ⟨_, one size_str rfl rfl (by decide), ?_⟩
      refine h.turn hs (st' := { st with tv := l, tvb := b }) rfl rfl rfl (by simp [World.setRow]) (fun k hk => heap_setRow_ne hk) (fun secs' h' => ?_) rfl rfl ⟨hx.1, e3, h.small.2.2⟩ h.look
      rw [hp' secs' h']
      exact heap_setRow_self hp
    | false =>
      rw [h1] at hc
      simp only [cond_false] at hc
      replace hc := cond_some hc
      obtain ⟨hb, hc⟩ := hc
      simp only [Option.some.injEq] at hc
      simp only [Bool.and_eq_true] at hb
      obtain ⟨⟨hT, hk⟩, hb1⟩ := hb
      have e1 := Nat.eq_of_beq_eq_true hT
      have e2 := Nat.eq_of_beq_eq_true hk
      have e3 := Nat.le_of_ble_eq_true hb1
      subst e1; subst e2; subst hc
      have hl : l.length ≤ b := hx.1
      refine ⟨_, one size_str rfl rfl (by decide), ?_⟩
      refine h.turn hs (st' := { st with tt := l }) rfl rfl rfl (by simp [World.setRow]) (fun k hk => heap_setRow_ne hk) (fun secs' h' => ?_) rfl rfl ⟨h.small.1, h.small.2.1, by show l.length ≤ 64; omega⟩ h.look
      rw [hp' secs' h']
      exact heap_setRow_self hp
  · rename_i d
    replace hc := cond_some hc
    obtain ⟨hb, hc⟩ := hc
    simp only [Option.some.injEq] at hc
    simp only [Bool.and_eq_true] at hb
    obtain ⟨⟨hT, hk⟩, hb1⟩ := hb
    have e1 := Nat.eq_of_beq_eq_true hT
    have e2 := Nat.eq_of_beq_eq_true hk
    subst e1; subst e2; subst hc
    refine ⟨_, one size_int rfl rfl (by decide), ?_⟩
    refine h.turn hs (st' := { st with d := d, look := none }) rfl rfl rfl (by simp [World.setRow]) (fun k hk => heap_setRow_ne hk) (fun secs' h' => ?_) rfl rfl h.small (fun k hk => by cases hk)
    rw [hp' secs' h']
    exact heap_setRow_self hp
  · cases hc

theorem asciiAll_at : ∀ {l : List UInt8}, asciiAll l = true → ∀ c ∈ l, c.toNat < 128
  | [], _, c, hc => by cases hc
  | d :: l, h, c, hc => by
    simp only [asciiAll, Bool.and_eq_true] at h
    rcases List.mem_cons.1 hc with rfl | hc
    · exact Nat.le_of_ble_eq_true h.1
    · exact asciiAll_at h.2 c hc

theorem noLower_at : ∀ {l : List UInt8}, noLower l = true → ∀ c ∈ l, c.toNat < 97 ∨ (122 < c.toNat ∧ c.toNat < 128)
  | [], _, c, hc => by cases hc
  | d :: l, h, c, hc => by
    simp only [noLower, Bool.and_eq_true, Bool.or_eq_true] at h
    rcases List.mem_cons.1 hc with rfl | hc
    · have h2 : c.toNat < 128 := Nat.le_of_ble_eq_true h.1.2
      rcases h.1.1 with h1 | h1
      · exact .inl (Nat.le_of_ble_eq_true h1)
      · have h1' : 122 < c.toNat := Nat.le_of_ble_eq_true h1
        exact .inr ⟨h1', h2⟩
    · exact noLower_at h.2 c hc

theorem bs_get (l : List UInt8) (i : Nat) (h : i < (bs l).size) : (bs l)[i]'h ∈ l := by
  have := Array.getElem_mem_toList (xs := (bs l).data) h
  have h2 : (bs l).data.toList = l := by simp [bs]
  rw [h2] at this
  exact this

theorem bs_one (c : UInt8) : (⟨#[UInt8.ofNat c.toNat]⟩ : ByteArray) = bs [c] := by
  simp [bs]
theorem bs_two (c d : UInt8) : (⟨#[UInt8.ofNat c.toNat, UInt8.ofNat d.toNat]⟩ : ByteArray) = bs [c, d] := by
  simp [bs]

theorem PS.qcall {s : Site} (hs : s.Ok) {o0 : Nat} {st : St} {w : World} {f : Nat} {xs : List AV} {v : AV} (h : PS s o0 st w) (hc : qcall st f xs = some v) (hx : ∀ x ∈ xs, x.ok) :
    v.ok ∧ Calls P f (xs.map (AV.conc s.bp o0)).toArray w (fun e w' => e = .returned (v.conc s.bp o0) ∧ PS s o0 st w') := by
  have c4 : w.cell? ⟨s.bp, 4, none⟩ = some (.slice (some ⟨s.br, 0, none⟩) s.rs.length s.cr) := h.cell fun _ => rfl
  have c5 : w.cell? ⟨s.bp, 5, none⟩ = some (.int .i64 ((o0 + st.d : Nat) : Int)) := h.cell fun _ => rfl
  unfold Nfp.qcall at hc
  split at hc
  · split at hc
    · cases hc
    · rename_i k hk
      have L := h.look k hk
      cases h1 : Nat.beq f fEOF with
      | true =>
        rw [h1] at hc
        simp only [cond_true, Option.some.injEq] at hc
        have e1 := Nat.eq_of_beq_eq_true h1
        subst e1; subst hc
        refine ⟨trivial, (eof_calls s.bp s.br _ s.rs.length s.cr w c4 c5).mono ?_⟩
        rintro e w' ⟨rfl, k', rfl⟩
        refine ⟨?_, h.drewN hs k'⟩
        rw [L.eof]
        simp [AV.conc]
      | false =>
        rw [h1] at hc
        simp only [cond_false] at hc
        cases h2 : k.eof with
        | true => rw [h2] at hc; cases hc
        | false =>
          rw [h2] at hc
          simp only [cond_false] at hc
          have hlt : o0 + st.d < s.rs.length := by
            have := L.eof
            rw [h2] at this
            have := of_decide_eq_false this.symm
            omega
          cases h3 : Nat.beq f fCur with
          | true =>
            rw [h3] at hc
            simp only [cond_true, Option.some.injEq] at hc
            have e1 := Nat.eq_of_beq_eq_true h3
            subst e1; subst hc
            obtain ⟨c, hc1, hc2⟩ := L.cur h2
            refine ⟨by rw [hc2]; exact ⟨by show 1 ≤ 8; decide, by decide⟩, (cur_calls s.bp s.br _ s.rs.length s.cr c.toNat w c4 c5 (by omega) (h.rune hs hc1) (hs.ascii _ c hc1)).mono ?_⟩
            rintro e w' ⟨rfl, k', rfl⟩
            refine ⟨?_, h.drewN hs k'⟩
            simp only [AV.conc, hc2, bs_one]
          | false =>
            rw [h3] at hc
            simp only [cond_false] at hc
            replace hc := cond_some hc
            obtain ⟨h4, hc⟩ := hc
            have e1 := Nat.eq_of_beq_eq_true h4
            subst e1
            split at hc
            · cases hc
            · rename_i c' l' hd
              simp only [Option.some.injEq] at hc
              subst hc
              obtain ⟨c, d, hc1, hc2, hc3⟩ := L.dbl (by rw [hd]; simp)
              have hlt2 : o0 + st.d + 1 < s.rs.length := (List.getElem?_eq_some_iff.1 hc2).1
              rw [hd] at hc3
              cases hc3
              have hl := hs.len
              refine ⟨⟨by show 2 ≤ 8; decide, by decide⟩, (dbl_calls s.bp s.br _ s.rs.length s.cr c'.toNat d.toNat w c4 c5 (by omega) hs.cap (by omega) (h.rune hs hc1) (h.rune hs hc2) (hs.ascii _ _ hc1) (hs.ascii _ _ hc2)).mono ?_⟩
              rintro e w' ⟨rfl, k', rfl⟩
              refine ⟨?_, h.drewN hs k'⟩
              simp only [AV.conc, bs_two]
  · rename_i a b c d
    cases h1 : Nat.beq f fHasAny && asciiAll a && asciiAll c && Nat.ble a.length 64 && Nat.ble c.length 64 with
    | true =>
      rw [h1] at hc
      simp only [cond_true, Option.some.injEq] at hc
      simp only [Bool.and_eq_true] at h1
      obtain ⟨⟨⟨⟨hf, ha⟩, hc'⟩, -⟩, -⟩ := h1
      have e1 := Nat.eq_of_beq_eq_true hf
      subst e1; subst hc
      refine ⟨trivial, (hasAny_calls (bs a) (bs c) (fun i hi => asciiAll_at ha _ (bs_get a i hi)) (fun i hi => asciiAll_at hc' _ (bs_get c i hi)) w).mono ?_⟩
      rintro e w' ⟨rfl, hb⟩
      exact ⟨rfl, h.below hs hb⟩
    | false =>
      rw [h1] at hc
      simp only [cond_false] at hc
      replace hc := cond_some hc
      obtain ⟨h2, hc⟩ := hc
      simp only [Option.some.injEq] at hc
      simp only [Bool.and_eq_true] at h2
      obtain ⟨⟨⟨hf, hac⟩, ha⟩, hl⟩ := h2
      have e1 := Nat.eq_of_beq_eq_true hf
      have e2 : a = c := by simpa using hac
      have e3 := Nat.le_of_ble_eq_true hl
      subst e1; subst hc; subst e2
      refine ⟨trivial, (fold_calls (bs a) (by rw [bs_size]; omega) (fun i hi => asciiAll_at ha _ (bs_get a i hi)) w).mono ?_⟩
      rintro e w' ⟨rfl, rfl⟩
      exact ⟨rfl, h⟩
  · rename_i a b
    replace hc := cond_some hc
    obtain ⟨h2, hc⟩ := hc
    simp only [Option.some.injEq] at hc
    simp only [Bool.and_eq_true] at h2
    obtain ⟨⟨hf, ha⟩, hl⟩ := h2
    have e1 := Nat.eq_of_beq_eq_true hf
    have e3 := Nat.le_of_ble_eq_true hl
    subst e1; subst hc
    refine ⟨hx _ (by simp), (upper_calls (bs a) (by rw [bs_size]; omega) (fun i hi => noLower_at ha _ (bs_get a i hi)) w).mono ?_⟩
    rintro e w' ⟨rfl, rfl⟩
    exact ⟨rfl, h⟩
  · cases hc

theorem PS.ecall {s : Site} (hs : s.Ok) {o0 : Nat} {st st' : St} {w : World} {f : Nat} {xs : List AV} {v : AV} (h : PS s o0 st w) (hc : ecall st f xs = some (v, st')) (hx : ∀ x ∈ xs, x.ok) :
    v.ok ∧ Calls P f (xs.map (AV.conc s.bp o0)).toArray w (fun e w' => e = .returned (v.conc s.bp o0) ∧ PS s o0 st' w') := by
  unfold Nfp.ecall at hc
  split at hc
  · rename_i v' b t b'
    replace hc := cond_some hc
    obtain ⟨h1, hc⟩ := hc
    simp only [Bool.and_eq_true] at h1
    have e1 := Nat.eq_of_beq_eq_true h1.1
    subst e1
    split at hc
    · cases hc
    · rename_i m hm
      simp only [Option.some.injEq, Prod.mk.injEq] at hc
      obtain ⟨rfl, rfl⟩ := hc
      obtain ⟨secs, hp, hi⟩ := h.parser
      have hr := h.room
      have hz := h.size
      have hB := hs.hB
      refine ⟨hx (.str v' b) (by simp), (add_calls s.B s.bp _ secs st.toks v' t w (by omega) hs.hbp hp rfl rfl hi (by omega)).mono ?_⟩
      rintro e w' ⟨rfl, hA⟩
      obtain ⟨secs', h2, h3⟩ := hA.turned
      refine ⟨rfl, hA.os.trans h.os, hA.tape.trans h.tape, hA.output.trans h.output, by have := hA.size; omega, fun k hk hne => (hA.block k (by omega) hne (.inl hk)).trans (h.block k hk hne), ⟨secs', h2, h3 w' fun _ _ _ _ => rfl⟩, h.small, ?_, h.look⟩
      simp only [List.length_append, List.length_cons, List.length_nil]
      omega
  · cases hc

theorem par {s : Site} (hs : s.Ok) {o0 : Nat} (ho : o0 ≤ 100000) : Par s.bp o0 (PS s o0) where
  drew h := h.same hs rfl rfl rfl (Nat.le_refl _) fun _ _ => rfl
  small h := h.small
  fit := by omega
  cell0 h := h.cell fun _ => rfl
  cell1 h := h.cell fun _ => rfl
  cell5 h := h.cell fun _ => rfl
  cell9 h := h.cell fun _ => rfl
  cell10 h := h.cell fun _ => rfl
  cell11 h := h.cell fun _ => rfl
  store h hc hx := h.store hs hc hx
  enterQ {st f xs v} w args hc := by
    unfold Nfp.qcall at hc
    split at hc
    · split at hc
      · cases hc
      · rename_i k hk
        cases h1 : Nat.beq f fEOF with
        | true =>
          have e1 := Nat.eq_of_beq_eq_true h1
          subst e1
          exact enter25 w args
        | false =>
          rw [h1] at hc
          simp only [cond_false] at hc
          cases h2 : k.eof with
          | true => rw [h2] at hc; cases hc
          | false =>
            rw [h2] at hc
            simp only [cond_false] at hc
            cases h3 : Nat.beq f fCur with
            | true =>
              have e1 := Nat.eq_of_beq_eq_true h3
              subst e1
              exact enter26 w args
            | false =>
              rw [h3] at hc
              simp only [cond_false] at hc
              have e1 := Nat.eq_of_beq_eq_true (cond_some hc).1
              subst e1
              exact enter39 w args
    · rename_i a b c d
      cases h1 : Nat.beq f fHasAny && asciiAll a && asciiAll c && Nat.ble a.length 64 && Nat.ble c.length 64 with
      | true =>
        simp only [Bool.and_eq_true] at h1
        have e1 := Nat.eq_of_beq_eq_true h1.1.1.1.1
        subst e1
        exact enter30 w args
      | false =>
        rw [h1] at hc
        simp only [cond_false] at hc
        have h2 := (cond_some hc).1
        simp only [Bool.and_eq_true] at h2
        have e1 := Nat.eq_of_beq_eq_true h2.1.1.1
        subst e1
        exact enter38 w args
    · have h2 := (cond_some hc).1
      simp only [Bool.and_eq_true] at h2
      have e1 := Nat.eq_of_beq_eq_true h2.1.1
      subst e1
      exact enter34 w args
    · cases hc
  enterE {st st' f xs v} w args hc := by
    unfold Nfp.ecall at hc
    split at hc
    · have h2 := (cond_some hc).1
      simp only [Bool.and_eq_true] at h2
      have e1 := Nat.eq_of_beq_eq_true h2.1
      subst e1
      exact enter31 w args
    · cases hc
  qcall h hc hx := h.qcall hs hc hx
  ecall h hc hx := h.ecall hs hc hx

end Go.Nfp
