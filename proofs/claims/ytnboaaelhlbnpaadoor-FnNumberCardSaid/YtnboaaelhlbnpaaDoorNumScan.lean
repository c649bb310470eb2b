/- The rounds over the texts of FnNumber, and her walk. -/
import Derived.Test.YtnboaaelhlbnpaaDoorNumToks
namespace Go.Nfp
open Go Go.Proofs Go.RowKit

theorem at_rep {rs pre post : List UInt8} {m : Nat} {c : UInt8} (h : rs = pre ++ (rep m c ++ post)) : ∀ i, i < m → rs[pre.length + i]? = some c := by
  intro i hi
  have lm : (rep m c).length = m := by simp [rep]
  rw [h, List.getElem?_append_right (by omega), show pre.length + i - pre.length = i by omega, List.getElem?_append_left (by omega)]
  simp [rep, hi]
theorem at_one {rs pre post : List UInt8} {c : UInt8} (h : rs = pre ++ (c :: post)) : rs[pre.length]? = some c := by
  rw [h, List.getElem?_append_right (by omega), Nat.sub_self]
  rfl

theorem tail_scan (rs pre : List UInt8) (k p : Nat) (pc : Bool) (toks : Toks) (hrs : rs = pre ++ ((if 0 < p then [46] ++ rep p 48 else []) ++ (if pc then [37] else []))) (hk : 1 ≤ k ∧ k ≤ 8) (hp : p ≤ 8) (ht : toks.length ≤ 10) (hl : pre.length ≤ 100) :
    ∃ tvE ttE toksE stF, ScanE rs tvE ttE toksE pre.length (rep k 48) zeroT toks ∧ stF.toks = toks ++ [(rep k 48, zeroT)] ++ (if 0 < p then [([46], dotT), (rep p 48, zeroT)] else []) ++ (if pc then [([37], pctT)] else []) ∧
      ∀ rb, stOf (runC gtail (env0 rb) ⟨0, tvE, 100, ttE, toksE, some ⟨true, [], [], []⟩, 4⟩) = some (.normal, stF, some (.ps 0), some (.res rb)) := by
  have lp : (rep p 48).length = p := by simp [rep]
  by_cases h0 : 0 < p
  · rw [if_pos h0] at hrs
    rw [if_pos h0]
    have hdot : rs[pre.length]? = some 46 := at_one (post := rep p 48 ++ (if pc then [37] else [])) (by rw [hrs]; simp)
    have hz : ∀ i, i < p → rs[pre.length + 1 + i]? = some 48 := by
      have := at_rep (rs := rs) (pre := pre ++ [46]) (m := p) (c := 48) (post := if pc then [37] else []) (by rw [hrs]; simp)
      simpa using this
    cases pc with
    | true =>
      have hpc : rs[pre.length + 1 + p]? = some 37 := by
        have := at_one (rs := rs) (pre := pre ++ [46] ++ rep p 48) (c := 37) (post := []) (by rw [hrs]; simp)
        have el : (pre ++ [46] ++ rep p 48).length = pre.length + 1 + p := by simp [lp]; omega
        rw [el] at this
        exact this
      have hlen : rs.length = pre.length + 1 + p + 1 := by rw [hrs]; simp [lp]; omega
      obtain ⟨stF, h1, h2⟩ := end_pct (toks ++ [(rep k 48, zeroT)] ++ [([46], dotT)] ++ [(rep p 48, zeroT)])
      refine ⟨_, _, _, stF, ?_, ?_, h2⟩
      · refine dot_step (by omega) (by omega) hdot ?_
        refine zeros_new (by simp; omega) p (pre.length + 1) (by omega) hz (by omega) ?_
        refine pct_step (by simp; omega) (by omega) hpc ?_
        exact ⟨0, .stop (by omega)⟩
      · rw [h1]
        simp
    | false =>
      have hlen : rs.length = pre.length + 1 + p := by rw [hrs]; simp [lp]; omega
      obtain ⟨stF, h1, h2⟩ := end_zero p (by omega) (toks ++ [(rep k 48, zeroT)] ++ [([46], dotT)])
      refine ⟨_, _, _, stF, ?_, ?_, h2⟩
      · refine dot_step (by omega) (by omega) hdot ?_
        refine zeros_new (by simp; omega) p (pre.length + 1) (by omega) hz (by omega) ?_
        exact ⟨0, .stop (by omega)⟩
      · rw [h1]
        simp
  · rw [if_neg h0] at hrs
    rw [if_neg h0]
    cases pc with
    | true =>
      have hpc : rs[pre.length]? = some 37 := at_one (post := []) (by rw [hrs]; simp)
      have hlen : rs.length = pre.length + 1 := by rw [hrs]; simp
      obtain ⟨stF, h1, h2⟩ := end_pct (toks ++ [(rep k 48, zeroT)])
      refine ⟨_, _, _, stF, ?_, ?_, h2⟩
      · refine pct_step (by omega) (by omega) hpc ?_
        exact ⟨0, .stop (by omega)⟩
      · rw [h1]
        simp
    | false =>
      have hlen : rs.length = pre.length := by rw [hrs]; simp
      obtain ⟨stF, h1, h2⟩ := end_zero k hk toks
      refine ⟨_, _, _, stF, ⟨0, .stop (by omega)⟩, ?_, h2⟩
      rw [h1]
      simp

theorem num_mem (h k p : Nat) (th pc : Bool) : ∀ x ∈ numText h k p th pc, x = 35 ∨ x = 44 ∨ x = 48 ∨ x = 46 ∨ x = 37 := by
  intro x hx
  simp only [numText, rep, List.mem_append, List.mem_replicate] at hx
  rcases hx with (((hx | hx) | hx) | hx) | hx
  · exact .inl hx.2
  · split at hx
    · simp only [List.mem_cons, List.not_mem_nil, or_false] at hx
      exact .inr (.inl hx)
    · cases hx
  · exact .inr (.inr (.inl hx.2))
  · split at hx
    · simp only [List.mem_append, List.mem_cons, List.not_mem_nil, or_false, List.mem_replicate] at hx
      rcases hx with hx | hx
      · exact .inr (.inr (.inr (.inl hx)))
      · exact .inr (.inr (.inl hx.2))
    · cases hx
  · split at hx
    · simp only [List.mem_cons, List.not_mem_nil, or_false] at hx
      exact .inr (.inr (.inr (.inr hx)))
    · cases hx

theorem reads_num (h k p : Nat) (th pc : Bool) (hh : h ≤ 8) (hk : 1 ≤ k ∧ k ≤ 8) (hp : p ≤ 8) : Reads (numText h k p th pc) (numToks h k p th pc) := by
  have hmem := num_mem h k p th pc
  have lh : (rep h 35).length = h := by simp [rep]
  have lk : (rep k 48).length = k := by simp [rep]
  have lp : (rep p 48).length = p := by simp [rep]
  have hlen : (numText h k p th pc).length ≤ 100 := by
    simp only [numText, List.length_append, lh, lk]
    split <;> split <;> split <;> simp [lp] <;> omega
  have hne : numText h k p th pc ≠ [] := by
    intro e
    have := congrArg List.length e
    simp only [numText, List.length_append, lk, List.length_nil] at this
    omega
  have hsp : ∀ x ∈ numText h k p th pc, Lib.isSp x = false := by
    intro x hx
    rcases hmem x hx with rfl | rfl | rfl | rfl | rfl <;> decide
  have hscan : ∃ tvE ttE toksE stF, ScanE (numText h k p th pc) tvE ttE toksE 0 [] [] [] ∧ stF.toks = numToks h k p th pc ∧
      ∀ rb, stOf (runC gtail (env0 rb) ⟨0, tvE, 100, ttE, toksE, some ⟨true, [], [], []⟩, 4⟩) = some (.normal, stF, some (.ps 0), some (.res rb)) := by
    by_cases h0 : 0 < h
    · cases th with
      | true =>
        have e : numText h k p true pc = rep h 35 ++ [44] ++ rep k 48 ++ ((if 0 < p then [46] ++ rep p 48 else []) ++ (if pc then [37] else [])) := by
          simp [numText, h0]
        have et : numToks h k p true pc = [(rep h 35, hashT)] ++ [([44], commaT)] ++ [(rep k 48, zeroT)] ++ (if 0 < p then [([46], dotT), (rep p 48, zeroT)] else []) ++ (if pc then [([37], pctT)] else []) := by
          simp [numToks, h0]
        obtain ⟨tvE, ttE, toksE, stF, h1, h2, h3⟩ := tail_scan (numText h k p true pc) (rep h 35 ++ [44] ++ rep k 48) k p pc ([] ++ [(rep h 35, hashT)] ++ [([44], commaT)]) e hk hp (by simp) (by simp [lh, lk]; omega)
        have hz : ∀ i, i < h → (numText h k p true pc)[0 + i]? = some 35 := at_rep (pre := []) (post := [44] ++ rep k 48 ++ ((if 0 < p then [46] ++ rep p 48 else []) ++ (if pc then [37] else []))) (by rw [e]; simp)
        have hcm : (numText h k p true pc)[h]? = some 44 := by
          have := at_one (rs := numText h k p true pc) (pre := rep h 35) (c := 44) (post := rep k 48 ++ ((if 0 < p then [46] ++ rep p 48 else []) ++ (if pc then [37] else []))) (by rw [e]; simp)
          rwa [lh] at this
        have hzk : ∀ i, i < k → (numText h k p true pc)[h + 1 + i]? = some 48 := by
          have := at_rep (rs := numText h k p true pc) (pre := rep h 35 ++ [44]) (m := k) (c := 48) (post := (if 0 < p then [46] ++ rep p 48 else []) ++ (if pc then [37] else [])) (by rw [e]; simp)
          simpa [lh] using this
        refine ⟨tvE, ttE, toksE, stF, ?_, by rw [h2, et]; simp, h3⟩
        refine hashes_new (by decide) h 0 (by omega) hz (by omega) ?_
        rw [Nat.zero_add]
        refine comma_step (by decide) (by omega) hcm ?_
        refine zeros_new (by simp) k (h + 1) (by omega) hzk (by omega) ?_
        have el : (rep h 35 ++ [44] ++ rep k 48).length = h + 1 + k := by simp [lh, lk]; omega
        rw [el] at h1
        exact h1
      | false =>
        have e : numText h k p false pc = rep h 35 ++ rep k 48 ++ ((if 0 < p then [46] ++ rep p 48 else []) ++ (if pc then [37] else [])) := by
          simp [numText]
        have et : numToks h k p false pc = [(rep h 35, hashT)] ++ [(rep k 48, zeroT)] ++ (if 0 < p then [([46], dotT), (rep p 48, zeroT)] else []) ++ (if pc then [([37], pctT)] else []) := by
          simp [numToks, h0]
        obtain ⟨tvE, ttE, toksE, stF, h1, h2, h3⟩ := tail_scan (numText h k p false pc) (rep h 35 ++ rep k 48) k p pc ([] ++ [(rep h 35, hashT)]) e hk hp (by simp) (by simp [lh, lk]; omega)
        have hz : ∀ i, i < h → (numText h k p false pc)[0 + i]? = some 35 := at_rep (pre := []) (post := rep k 48 ++ ((if 0 < p then [46] ++ rep p 48 else []) ++ (if pc then [37] else []))) (by rw [e]; simp)
        have hzk : ∀ i, i < k → (numText h k p false pc)[h + i]? = some 48 := by
          have := at_rep (rs := numText h k p false pc) (pre := rep h 35) (m := k) (c := 48) (post := (if 0 < p then [46] ++ rep p 48 else []) ++ (if pc then [37] else [])) (by rw [e]; simp)
          simpa [lh] using this
        refine ⟨tvE, ttE, toksE, stF, ?_, by rw [h2, et]; simp, h3⟩
        refine hashes_new (by decide) h 0 (by omega) hz (by omega) ?_
        rw [Nat.zero_add]
        refine zeros_hash (by decide) h k h (by omega) (by omega) hzk (by omega) ?_
        have el : (rep h 35 ++ rep k 48).length = h + k := by simp [lh, lk]
        rw [el] at h1
        exact h1
    · have hh0 : h = 0 := by omega
      subst hh0
      have e : numText 0 k p th pc = rep k 48 ++ ((if 0 < p then [46] ++ rep p 48 else []) ++ (if pc then [37] else [])) := by
        simp [numText, rep]
      have et : numToks 0 k p th pc = [(rep k 48, zeroT)] ++ (if 0 < p then [([46], dotT), (rep p 48, zeroT)] else []) ++ (if pc then [([37], pctT)] else []) := by
        simp [numToks]
      obtain ⟨tvE, ttE, toksE, stF, h1, h2, h3⟩ := tail_scan (numText 0 k p th pc) (rep k 48) k p pc [] e hk hp (by decide) (by omega)
      have hzk : ∀ i, i < k → (numText 0 k p th pc)[0 + i]? = some 48 := at_rep (pre := []) (post := (if 0 < p then [46] ++ rep p 48 else []) ++ (if pc then [37] else [])) (by rw [e]; simp)
      refine ⟨tvE, ttE, toksE, stF, ?_, by rw [h2, et]; simp, h3⟩
      refine zeros_new (by decide) k 0 (by omega) hzk (by omega) ?_
      rw [Nat.zero_add]
      rw [lk] at h1
      exact h1
  obtain ⟨tvE, ttE, toksE, stF, ⟨n, h1⟩, h2, h3⟩ := hscan
  refine ⟨fun x hx => ?_, by omega, ?_, n, tvE, ttE, toksE, stF, h1, h2, h3⟩
  · rcases hmem x hx with rfl | rfl | rfl | rfl | rfl <;> decide
  · obtain ⟨c, m, hcm⟩ := List.exists_cons_of_ne_nil hne
    refine ⟨c, (numText h k p th pc).getLast hne, m, hcm, List.getLast?_eq_some_getLast hne, hsp c (by rw [hcm]; simp), hsp _ (List.getLast_mem hne)⟩

theorem enter11 (w : World) (args : Array Value) : (callFunc 11 args).run P w = .ok (.enter 11 args) w := by kernel_rfl
theorem enter12 (w : World) (args : Array Value) : (callFunc 12 args).run P w = .ok (.enter 12 args) w := by kernel_rfl

theorem numToks_len (h k p : Nat) (th pc : Bool) : (numToks h k p th pc).length ≤ 1000 ∧ numToks h k p th pc ≠ [] := by
  constructor
  · simp only [numToks, List.length_append]
    split <;> split <;> split <;> first | (split <;> simp) | simp
  · intro e
    have := congrArg List.length e
    simp only [numToks, List.length_append, List.length_nil, List.length_cons] at this
    omega

set_option maxRecDepth 100000 in
set_option maxHeartbeats 1000000 in
theorem fnnum_out (a b c : Int) (th pc : Bool) (hout : a < 0 ∨ 8 < a ∨ b < 1 ∨ 8 < b ∨ c < 0 ∨ 8 < c) (w : World) (htab : Lib.TabIs P w "strings.asciiSpace" .u8 Lib.asciiSpaceTab) :
    Calls Tryd.prog 4 #[.int .i64 a, .int .i64 b, .int .i64 c, .bool th, .bool pc] w fun e w' => e = .returned (.bool true) ∧ w.grownBy w' none := by
  have hw := works_calls w htab
  go_enter Tryd.func4, Tryd.ntmps4
  by_cases h1 : a < 0
  · go_wp2_with (go_at_call 5; refine hw.mono ?_; rintro e w1 ⟨rfl, hg⟩)
    go_ret
    exact ⟨rfl, hg⟩
  by_cases h2 : (8 : Int) < a
  · go_wp2_with (go_at_call 5; refine hw.mono ?_; rintro e w1 ⟨rfl, hg⟩)
    go_ret
    exact ⟨rfl, hg⟩
  by_cases h3 : b < 1
  · go_wp2_with (go_at_call 5; refine hw.mono ?_; rintro e w1 ⟨rfl, hg⟩)
    go_ret
    exact ⟨rfl, hg⟩
  by_cases h4 : (8 : Int) < b
  · go_wp2_with (go_at_call 5; refine hw.mono ?_; rintro e w1 ⟨rfl, hg⟩)
    go_ret
    exact ⟨rfl, hg⟩
  by_cases h5 : c < 0
  · go_wp2_with (go_at_call 5; refine hw.mono ?_; rintro e w1 ⟨rfl, hg⟩)
    go_ret
    exact ⟨rfl, hg⟩
  have h6 : (8 : Int) < c := by omega
  go_wp2_with (go_at_call 5; refine hw.mono ?_; rintro e w1 ⟨rfl, hg⟩)
  go_ret
  exact ⟨rfl, hg⟩

set_option maxRecDepth 100000 in
set_option maxHeartbeats 1000000 in
theorem fnnum_in (a b c : Nat) (th pc : Bool) (ha : a ≤ 8) (hb : 1 ≤ b ∧ b ≤ 8) (hc : c ≤ 8) (w : World) (htab : Lib.TabIs P w "strings.asciiSpace" .u8 Lib.asciiSpaceTab) :
    Calls Tryd.prog 4 #[.int .i64 (a : Int), .int .i64 (b : Int), .int .i64 (c : Int), .bool th, .bool pc] w fun e w' => e = .returned (.bool true) ∧ w.grownBy w' none := by
  obtain ⟨hl, hne⟩ := numToks_len a b c th pc
  have hP := iparse_calls (numText a b c th pc) (numToks a b c th pc) (reads_num a b c th pc ha hb hc) hl hne w htab
  have hT := numtext_calls a b c th pc (by omega) (by omega) (by omega) w
  have i1 : ¬ (a : Int) < 0 := by omega
  have i2 : ¬ (8 : Int) < a := by omega
  have i3 : ¬ (b : Int) < 1 := by omega
  have i4 : ¬ (8 : Int) < b := by omega
  have i5 : ¬ (c : Int) < 0 := by omega
  have i6 : ¬ (8 : Int) < c := by omega
  go_enter Tryd.func4, Tryd.ntmps4
  go_wp2_with (go_at_call 11; refine hT.mono ?_; rintro e w1 ⟨rfl, hw1⟩; rw [hw1]; clear hw1 w1)
  refine hP.mono ?_
  rintro e w1 ⟨l, rfl, hO⟩
  have hS := sections_calls l (numToks a b c th pc) w.heap.size hl hne w1 hO.out
  have hg1 := hO.grown
  go_wp2_with fail
  refine hS.mono ?_
  rintro e w2 ⟨l2, rfl, hg2, hI⟩
  have hK := numtoks_calls a b c th pc (by omega) (by omega) (by omega) w2
  go_wp2_with fail
  refine hK.mono ?_
  rintro e w3 ⟨it, rfl, hg3, hK3⟩
  have hs := sees_built it (numToks a b c th pc) w3 hK3
  have hl3 : ∃ ob cap g icap, Sees1 l2 (numToks a b c th pc) ob cap g icap (w3.alloc (.cells #[posV, it] 33)) := by
    obtain ⟨ob, cap, g, icap, h⟩ := hI.sees hne
    exact ⟨ob, cap, g, icap, (h.grown hg3).grown (World.grownBy_alloc w3 _ none)⟩
  have hE := same_calls l2 (.slice (some ⟨w3.heap.size, 0, none⟩) 1 1) (numToks a b c th pc) hl (w3.alloc (.cells #[posV, it] 33)) hl3 hs
  obtain ⟨g, icap, rfl, -⟩ := hK3
  go_wp2_with fail
  refine hE.mono ?_
  rintro e w4 ⟨rfl, hg4⟩
  have hg : w.grownBy w4 none := grown_trans hg1 (grown_trans hg2 (grown_trans hg3 (grown_trans (World.grownBy_alloc w3 _ none) hg4)))
  have hw := works_calls w4 (tab_grown htab hg)
  go_wp2_with fail
  refine hw.mono ?_
  rintro e w5 ⟨rfl, hg5⟩
  go_wp2_with fail
  go_ret
  exact ⟨rfl, grown_trans hg hg5⟩

theorem fnnum_calls (a b c : Int) (th pc : Bool) (w : World) (htab : Lib.TabIs P w "strings.asciiSpace" .u8 Lib.asciiSpaceTab) :
    Calls Tryd.prog 4 #[.int .i64 a, .int .i64 b, .int .i64 c, .bool th, .bool pc] w fun e w' => e = .returned (.bool true) ∧ w.grownBy w' none := by
  by_cases h : (0 ≤ a ∧ a ≤ 8) ∧ (1 ≤ b ∧ b ≤ 8) ∧ 0 ≤ c ∧ c ≤ 8
  · obtain ⟨⟨a1, a2⟩, ⟨b1, b2⟩, c1, c2⟩ := h
    obtain ⟨x, rfl⟩ := Int.eq_ofNat_of_zero_le (show 0 ≤ a by omega)
    obtain ⟨y, rfl⟩ := Int.eq_ofNat_of_zero_le (show 0 ≤ b by omega)
    obtain ⟨z, rfl⟩ := Int.eq_ofNat_of_zero_le (show 0 ≤ c by omega)
    exact fnnum_in x y z th pc (by omega) (by omega) (by omega) w htab
  · exact fnnum_out a b c th pc (by omega) w htab
end Go.Nfp
