/- The rounds over the texts of the laws, strung together. -/
import Derived.Test.YtnboaaelhlbnpaaDoorExpLaw
namespace Go.Nfp
open Go Go.Proofs Go.RowKit

section
variable {rs tvE ttE tv tt : List UInt8} {toksE toks : Toks} {o : Nat}

def ScanE (rs tvE ttE : List UInt8) (toksE : Toks) (o : Nat) (tv tt : List UInt8) (toks : Toks) : Prop := ∃ n, Scan rs tvE ttE toksE n o tv tt toks

theorem look1 {c : UInt8} (h : rs[o]? = some c) : LookAt rs o ⟨false, [c], [], []⟩ := by
  have hlt : o < rs.length := (List.getElem?_eq_some_iff.1 h).1
  exact ⟨by simp; omega, fun _ => ⟨c, h, rfl⟩, fun h => absurd rfl h⟩
theorem look2 {c d : UInt8} (h : rs[o]? = some c) (h2 : rs[o + 1]? = some d) : LookAt rs o ⟨false, [c], [], [c, d]⟩ := by
  have hlt : o < rs.length := (List.getElem?_eq_some_iff.1 h).1
  exact ⟨by simp; omega, fun _ => ⟨c, h, rfl⟩, fun _ => ⟨c, d, h, h2, rfl⟩⟩

theorem zeros_run (hto : toks.length ≤ 900) : ∀ (m o : Nat) (tv : List UInt8), (∀ i, i < m → rs[o + i]? = some 48) → tv.length + m ≤ 100 → o + m ≤ 90000 → ScanE rs tvE ttE toksE (o + m) (tv ++ rep m 48) zeroT toks → ScanE rs tvE ttE toksE o tv zeroT toks
  | 0, o, tv, _, _, _, h => by simpa [rep] using h
  | m + 1, o, tv, hz, hl, ho, h => by
    have h1 : ScanE rs tvE ttE toksE (o + 1) (tv ++ [48]) zeroT toks := by
      refine zeros_run hto m (o + 1) (tv ++ [48]) (fun i hi => ?_) (by simp; omega) (by omega) ?_
      · have := hz (i + 1) (by omega)
        rwa [show o + (i + 1) = o + 1 + i by omega] at this
      · have e1 : tv ++ [48] ++ rep m 48 = tv ++ rep (m + 1) 48 := by simp [rep, List.replicate_succ]
        rw [e1, show o + 1 + m = o + (m + 1) by omega]
        exact h
    obtain ⟨n, h1⟩ := h1
    exact ⟨n + 1, .step _ (look1 (hz 0 (by omega))) (fun rb => r00 rb toks tv) (by simp; omega) hto (by omega) h1⟩

theorem hashes_run (hto : toks.length ≤ 900) : ∀ (m o : Nat) (tv : List UInt8), (∀ i, i < m → rs[o + i]? = some 35) → tv.length + m ≤ 100 → o + m ≤ 90000 → ScanE rs tvE ttE toksE (o + m) (tv ++ rep m 35) hashT toks → ScanE rs tvE ttE toksE o tv hashT toks
  | 0, o, tv, _, _, _, h => by simpa [rep] using h
  | m + 1, o, tv, hz, hl, ho, h => by
    have h1 : ScanE rs tvE ttE toksE (o + 1) (tv ++ [35]) hashT toks := by
      refine hashes_run hto m (o + 1) (tv ++ [35]) (fun i hi => ?_) (by simp; omega) (by omega) ?_
      · have := hz (i + 1) (by omega)
        rwa [show o + (i + 1) = o + 1 + i by omega] at this
      · have e1 : tv ++ [35] ++ rep m 35 = tv ++ rep (m + 1) 35 := by simp [rep, List.replicate_succ]
        rw [e1, show o + 1 + m = o + (m + 1) by omega]
        exact h
    obtain ⟨n, h1⟩ := h1
    exact ⟨n + 1, .step _ (look1 (hz 0 (by omega))) (fun rb => rhh rb toks tv) (by simp; omega) hto (by omega) h1⟩

/-- Zeros behind nothing. -/
theorem zeros_new (hto : toks.length ≤ 900) (m o : Nat) (hm : 1 ≤ m ∧ m ≤ 90) (hz : ∀ i, i < m → rs[o + i]? = some 48) (ho : o + m ≤ 90000) (h : ScanE rs tvE ttE toksE (o + m) (rep m 48) zeroT toks) : ScanE rs tvE ttE toksE o [] [] toks := by
  obtain ⟨k, rfl⟩ : ∃ k, m = k + 1 := ⟨m - 1, by omega⟩
  obtain ⟨n, h1⟩ := zeros_run hto k (o + 1) [48] (fun i hi => by
    have := hz (i + 1) (by omega)
    rwa [show o + (i + 1) = o + 1 + i by omega] at this) (by simp; omega) (by omega) (by
    have e1 : [48] ++ rep k 48 = rep (k + 1) 48 := by simp [rep, List.replicate_succ]
    rw [e1, show o + 1 + k = o + (k + 1) by omega]
    exact h)
  exact ⟨n + 1, .step _ (look1 (hz 0 (by omega))) (fun rb => re0 rb toks) (by decide) hto (by omega) h1⟩

theorem hashes_new (hto : toks.length ≤ 900) (m o : Nat) (hm : 1 ≤ m ∧ m ≤ 90) (hz : ∀ i, i < m → rs[o + i]? = some 35) (ho : o + m ≤ 90000) (h : ScanE rs tvE ttE toksE (o + m) (rep m 35) hashT toks) : ScanE rs tvE ttE toksE o [] [] toks := by
  obtain ⟨k, rfl⟩ : ∃ k, m = k + 1 := ⟨m - 1, by omega⟩
  obtain ⟨n, h1⟩ := hashes_run hto k (o + 1) [35] (fun i hi => by
    have := hz (i + 1) (by omega)
    rwa [show o + (i + 1) = o + 1 + i by omega] at this) (by simp; omega) (by omega) (by
    have e1 : [35] ++ rep k 35 = rep (k + 1) 35 := by simp [rep, List.replicate_succ]
    rw [e1, show o + 1 + k = o + (k + 1) by omega]
    exact h)
  exact ⟨n + 1, .step _ (look1 (hz 0 (by omega))) (fun rb => reh rb toks) (by decide) hto (by omega) h1⟩

/-- Zeros behind E+. -/
theorem zeros_exp (hto : toks.length ≤ 800) (m o : Nat) (hm : 1 ≤ m ∧ m ≤ 90) (hz : ∀ i, i < m → rs[o + i]? = some 48) (ho : o + m ≤ 90000) (h : ScanE rs tvE ttE toksE (o + m) (rep m 48) zeroT (toks ++ [([69, 43], expT)])) : ScanE rs tvE ttE toksE o [69, 43] expT toks := by
  obtain ⟨k, rfl⟩ : ∃ k, m = k + 1 := ⟨m - 1, by omega⟩
  obtain ⟨n, h1⟩ := zeros_run (toks := toks ++ [([69, 43], expT)]) (by simp; omega) k (o + 1) [48] (fun i hi => by
    have := hz (i + 1) (by omega)
    rwa [show o + (i + 1) = o + 1 + i by omega] at this) (by simp; omega) (by omega) (by
    have e1 : [48] ++ rep k 48 = rep (k + 1) 48 := by simp [rep, List.replicate_succ]
    rw [e1, show o + 1 + k = o + (k + 1) by omega]
    exact h)
  exact ⟨n + 1, .step _ (look1 (hz 0 (by omega))) (fun rb => rx0 rb toks) (by decide) (by simp; omega) (by omega) h1⟩

/-- A zero behind one to eight hashes. -/
theorem zeros_hash (hto : toks.length ≤ 800) (j m o : Nat) (hj : 1 ≤ j ∧ j ≤ 8) (hm : 1 ≤ m ∧ m ≤ 90) (hz : ∀ i, i < m → rs[o + i]? = some 48) (ho : o + m ≤ 90000) (h : ScanE rs tvE ttE toksE (o + m) (rep m 48) zeroT (toks ++ [(rep j 35, hashT)])) : ScanE rs tvE ttE toksE o (rep j 35) hashT toks := by
  obtain ⟨k, rfl⟩ : ∃ k, m = k + 1 := ⟨m - 1, by omega⟩
  obtain ⟨n, h1⟩ := zeros_run (toks := toks ++ [(rep j 35, hashT)]) (by simp; omega) k (o + 1) [48] (fun i hi => by
    have := hz (i + 1) (by omega)
    rwa [show o + (i + 1) = o + 1 + i by omega] at this) (by simp; omega) (by omega) (by
    have e1 : [48] ++ rep k 48 = rep (k + 1) 48 := by simp [rep, List.replicate_succ]
    rw [e1, show o + 1 + k = o + (k + 1) by omega]
    exact h)
  have hr : ∀ rb, stOf (runC gbody (env0 rb) ⟨0, rep j 35, 100, hashT, toks, some ⟨false, [48], [], []⟩, 4⟩) = some (.normal, ⟨1, [48], 8, zeroT, toks ++ [(rep j 35, hashT)], none, 3⟩, some (.ps 0), some (.res rb)) := fun rb => by
    obtain ⟨h1, h8⟩ := hj
    match j, h1, h8 with
    | 1, _, _ => exact rh0_1 rb toks
    | 2, _, _ => exact rh0_2 rb toks
    | 3, _, _ => exact rh0_3 rb toks
    | 4, _, _ => exact rh0_4 rb toks
    | 5, _, _ => exact rh0_5 rb toks
    | 6, _, _ => exact rh0_6 rb toks
    | 7, _, _ => exact rh0_7 rb toks
    | 8, _, _ => exact rh0_8 rb toks
  exact ⟨n + 1, .step _ (look1 (hz 0 (by omega))) hr (by decide) (by simp; omega) (by omega) h1⟩

theorem dot_step (hto : toks.length ≤ 800) (ho : o ≤ 90000) (hc : rs[o]? = some 46) (h : ScanE rs tvE ttE toksE (o + 1) [] [] (toks ++ [(tv, zeroT)] ++ [([46], dotT)])) : ScanE rs tvE ttE toksE o tv zeroT toks := by
  obtain ⟨n, h1⟩ := h
  exact ⟨n + 1, .step _ (look1 hc) (fun rb => r0d rb toks tv) (by decide) (by simp; omega) (by omega) h1⟩
theorem comma_step (hto : toks.length ≤ 800) (ho : o ≤ 90000) (hc : rs[o]? = some 44) (h : ScanE rs tvE ttE toksE (o + 1) [] [] (toks ++ [(tv, hashT)] ++ [([44], commaT)])) : ScanE rs tvE ttE toksE o tv hashT toks := by
  obtain ⟨n, h1⟩ := h
  exact ⟨n + 1, .step _ (look1 hc) (fun rb => rhc rb toks tv) (by decide) (by simp; omega) (by omega) h1⟩
theorem pct_step (hto : toks.length ≤ 800) (ho : o ≤ 90000) (hc : rs[o]? = some 37) (h : ScanE rs tvE ttE toksE (o + 1) [37] pctT (toks ++ [(tv, zeroT)])) : ScanE rs tvE ttE toksE o tv zeroT toks := by
  obtain ⟨n, h1⟩ := h
  exact ⟨n + 1, .step _ (look1 hc) (fun rb => r0p rb toks tv) (by decide) (by simp; omega) (by omega) h1⟩
theorem exp_step (hto : toks.length ≤ 800) (ho : o ≤ 90000) (hc : rs[o]? = some 69) (hd : rs[o + 1]? = some 43) (h : ScanE rs tvE ttE toksE (o + 2) [69, 43] expT (toks ++ [(tv, zeroT)])) : ScanE rs tvE ttE toksE o tv zeroT toks := by
  obtain ⟨n, h1⟩ := h
  exact ⟨n + 1, .step _ (look2 hc hd) (fun rb => r0x rb toks tv) (by decide) (by simp; omega) (by omega) h1⟩

theorem end_zero (k : Nat) (hk : 1 ≤ k ∧ k ≤ 8) (toks : Toks) : ∃ stF : St, stF.toks = toks ++ [(rep k 48, zeroT)] ∧ ∀ rb, stOf (runC gtail (env0 rb) ⟨0, rep k 48, 100, zeroT, toks, some ⟨true, [], [], []⟩, 4⟩) = some (.normal, stF, some (.ps 0), some (.res rb)) := by
  obtain ⟨h1, h8⟩ := hk
  match k, h1, h8 with
  | 1, _, _ => exact ⟨_, rfl, fun rb => g0_1 rb toks⟩
  | 2, _, _ => exact ⟨_, rfl, fun rb => g0_2 rb toks⟩
  | 3, _, _ => exact ⟨_, rfl, fun rb => g0_3 rb toks⟩
  | 4, _, _ => exact ⟨_, rfl, fun rb => g0_4 rb toks⟩
  | 5, _, _ => exact ⟨_, rfl, fun rb => g0_5 rb toks⟩
  | 6, _, _ => exact ⟨_, rfl, fun rb => g0_6 rb toks⟩
  | 7, _, _ => exact ⟨_, rfl, fun rb => g0_7 rb toks⟩
  | 8, _, _ => exact ⟨_, rfl, fun rb => g0_8 rb toks⟩

theorem end_pct (toks : Toks) : ∃ stF : St, stF.toks = toks ++ [([37], pctT)] ∧ ∀ rb, stOf (runC gtail (env0 rb) ⟨0, [37], 100, pctT, toks, some ⟨true, [], [], []⟩, 4⟩) = some (.normal, stF, some (.ps 0), some (.res rb)) :=
  ⟨_, rfl, fun rb => gp rb toks⟩
end

theorem exp_at (a b c : Nat) : (∀ i, i < a → (expText a b c)[i]? = some 48) ∧ (expText a b c)[a]? = some 46 ∧ (∀ i, i < b → (expText a b c)[a + 1 + i]? = some 48) ∧ (expText a b c)[a + 1 + b]? = some 69 ∧ (expText a b c)[a + 1 + b + 1]? = some 43 ∧
    ∀ i, i < c → (expText a b c)[a + 1 + b + 2 + i]? = some 48 := by
  have e : expText a b c = rep a 48 ++ ([46] ++ (rep b 48 ++ ([69, 43] ++ rep c 48))) := by simp [expText]
  have la : (rep a 48).length = a := by simp [rep]
  have lb : (rep b 48).length = b := by simp [rep]
  rw [e]
  refine ⟨fun i hi => ?_, ?_, fun i hi => ?_, ?_, ?_, fun i hi => ?_⟩
  · rw [List.getElem?_append_left (by omega)]
    simp [rep, hi]
  · rw [List.getElem?_append_right (by omega), la, Nat.sub_self]
    rfl
  · rw [List.getElem?_append_right (by omega), la, show a + 1 + i - a = i + 1 by omega, List.singleton_append, List.getElem?_cons_succ, List.getElem?_append_left (by omega)]
    simp [rep, hi]
  · rw [List.getElem?_append_right (by omega), la, show a + 1 + b - a = b + 1 by omega, List.singleton_append, List.getElem?_cons_succ, List.getElem?_append_right (by omega), lb, Nat.sub_self]
    rfl
  · rw [List.getElem?_append_right (by omega), la, show a + 1 + b + 1 - a = b + 1 + 1 by omega, List.singleton_append, List.getElem?_cons_succ, List.getElem?_append_right (by omega), lb, show b + 1 - b = 1 by omega]
    rfl
  · rw [List.getElem?_append_right (by omega), la, show a + 1 + b + 2 + i - a = b + 2 + i + 1 by omega, List.singleton_append, List.getElem?_cons_succ, List.getElem?_append_right (by omega), lb, show b + 2 + i - b = i + 1 + 1 by omega]
    simp [rep, hi]

theorem reads_exp (a b c : Nat) (ha : 1 ≤ a ∧ a ≤ 8) (hb : 1 ≤ b ∧ b ≤ 8) (hc : 1 ≤ c ∧ c ≤ 4) : Reads (expText a b c) (expToks a b c) := by
  obtain ⟨p1, p2, p3, p4, p5, p6⟩ := exp_at a b c
  have hlen : (expText a b c).length = a + 1 + b + 2 + c := by simp [expText, rep]; omega
  have hmem : ∀ x ∈ expText a b c, x = 48 ∨ x = 46 ∨ x = 69 ∨ x = 43 := by
    intro x hx
    simp only [expText, rep, List.mem_append, List.mem_replicate, List.mem_cons, List.not_mem_nil, or_false] at hx
    rcases hx with (((h | h) | h) | h | h) | h
    · exact .inl h.2
    · exact .inr (.inl h)
    · exact .inl h.2
    · exact .inr (.inr (.inl h))
    · exact .inr (.inr (.inr h))
    · exact .inl h.2
  have hend : ScanE (expText a b c) (rep c 48) zeroT ([] ++ [(rep a 48, zeroT)] ++ [([46], dotT)] ++ [(rep b 48, zeroT)] ++ [([69, 43], expT)]) 0 [] [] [] := by
    refine zeros_new (by decide) a 0 (by omega) (fun i hi => by rw [Nat.zero_add]; exact p1 i hi) (by omega) ?_
    rw [Nat.zero_add]
    refine dot_step (by decide) (by omega) p2 ?_
    refine zeros_new (by simp) b (a + 1) (by omega) p3 (by omega) ?_
    refine exp_step (by simp) (by omega) p4 p5 ?_
    refine zeros_exp (by simp) c (a + 1 + b + 2) (by omega) p6 (by omega) ?_
    exact ⟨0, .stop (by omega)⟩
  obtain ⟨n, hscan⟩ := hend
  obtain ⟨stF, h1, h2⟩ := end_zero c (by omega) ([] ++ [(rep a 48, zeroT)] ++ [([46], dotT)] ++ [(rep b 48, zeroT)] ++ [([69, 43], expT)])
  refine ⟨fun x hx => ?_, by omega, ?_, n, _, _, _, stF, hscan, h1, h2⟩
  · rcases hmem x hx with rfl | rfl | rfl | rfl <;> decide
  · obtain ⟨k, rfl⟩ : ∃ k, a = k + 1 := ⟨a - 1, by omega⟩
    refine ⟨48, 48, _, by simp [expText, rep, List.replicate_succ]; rfl, ?_, by decide, by decide⟩
    rw [List.getLast?_eq_getElem?, hlen, show k + 1 + 1 + b + 2 + c - 1 = k + 1 + 1 + b + 2 + (c - 1) by omega]
    exact p6 (c - 1) (by omega)

theorem fnexp_calls (a b c : Int) (w : World) (htab : Lib.TabIs P w "strings.asciiSpace" .u8 Lib.asciiSpaceTab) :
    Calls Tryd.prog 3 #[.int .i64 a, .int .i64 b, .int .i64 c] w fun e w' => e = .returned (.bool true) ∧ w.grownBy w' none := by
  by_cases h : (1 ≤ a ∧ a ≤ 8) ∧ (1 ≤ b ∧ b ≤ 8) ∧ 1 ≤ c ∧ c ≤ 4
  · obtain ⟨⟨a1, a2⟩, ⟨b1, b2⟩, c1, c2⟩ := h
    obtain ⟨x, rfl⟩ := Int.eq_ofNat_of_zero_le (show 0 ≤ a by omega)
    obtain ⟨y, rfl⟩ := Int.eq_ofNat_of_zero_le (show 0 ≤ b by omega)
    obtain ⟨z, rfl⟩ := Int.eq_ofNat_of_zero_le (show 0 ≤ c by omega)
    exact fnexp_in x y z (by omega) (by omega) (by omega) (reads_exp x y z (by omega) (by omega) (by omega)) w htab
  · exact fnexp_out a b c (by omega) w htab
end Go.Nfp
