/- A part of the walk of the parser: Has: it proves facts about the code that the laws reach; no condition beyond those of its theorems. -/
import Derived.Test.YtnboaaelhlbnpaaDoorExec
import Derived.Test.YtnboaaelhlbnpaaDoorProg
import Derived.WalkKit
import Derived.WalkSpells
import Derived.WalkLawsBesides
import Derived.Deep.LoopGhost
import Derived.Lib.Hide
import Derived.KernelRfl
namespace Go.Nfp
open Go Go.Proofs Go.RowKit

def setIter (w : World) (r : Nat) (s : ByteArray) (pos : Nat) : World := { w with heap := w.heap.setIfInBounds r (.stringIter s pos) }

theorem setIter_size (w : World) (r : Nat) (s : ByteArray) (pos : Nat) : (setIter w r s pos).heap.size = w.heap.size := by simp [setIter]
theorem setIter_at {w : World} {r : Nat} (h : r < w.heap.size) (s : ByteArray) (pos : Nat) : (setIter w r s pos).heap[r]? = some (.stringIter s pos) := by
  simp [setIter, h]
theorem setIter_ne {w : World} {r k : Nat} (h : r ≠ k) (s : ByteArray) (pos : Nat) : (setIter w r s pos).heap[k]? = w.heap[k]? := by
  simp only [setIter]; rw [Array.getElem?_setIfInBounds_ne h]

theorem run_next_at {P : Program} (w : World) (r : Nat) (s : ByteArray) (pos : Nat) (ty : TypeId) (hr : w.heap[r]? = some (.stringIter s pos)) (h : pos < s.size) (ha : (s[pos]'h).toNat < 128) :
    (Instr.next (.pointer (some ⟨r, 0, none⟩)) true ty).run P w =
      .ok (.tuple #[.bool true, .int .i64 pos, .int .i32 (s[pos]'h).toNat]) (setIter w r s (pos + 1)) := by
  simp only [Instr.next, getObj, setObj, Sem.run_bind, Sem.run, hr, Result.andThen, h, if_true, decode_ascii s pos h ha]
  simp [goInt, setIter]

theorem run_next_over {P : Program} (w : World) (r : Nat) (s : ByteArray) (pos : Nat) (ty : TypeId) (hr : w.heap[r]? = some (.stringIter s pos)) (h : ¬ pos < s.size) :
    (Instr.next (.pointer (some ⟨r, 0, none⟩)) true ty).run P w = .ok (.tuple #[.bool false]) w := by
  simp [Instr.next, getObj, Sem.run, hr, h]

theorem anyIn_true {s t : ByteArray} {i j : Nat} (hi : i < s.size) (hj : j < t.size) (h : (s[i]'hi).toNat = (t[j]'hj).toNat) : anyIn s.data.toList t.data.toList = true := by
  unfold anyIn
  rw [List.any_eq_true]
  refine ⟨s[i]'hi, Array.getElem_mem_toList (xs := s.data) hi, ?_⟩
  rw [List.any_eq_true]
  exact ⟨t[j]'hj, Array.getElem_mem_toList (xs := t.data) hj, by rw [h]; exact Nat.beq_refl _⟩

theorem anyIn_false {s t : ByteArray} (h : ∀ i (hi : i < s.size) j (hj : j < t.size), (s[i]'hi).toNat ≠ (t[j]'hj).toNat) : anyIn s.data.toList t.data.toList = false := by
  unfold anyIn
  rw [List.any_eq_false]
  intro c hc
  rw [List.any_eq_true]
  rintro ⟨d, hd, he⟩
  obtain ⟨i, hi, rfl⟩ := List.mem_iff_getElem.1 hc
  obtain ⟨j, hj, rfl⟩ := List.mem_iff_getElem.1 hd
  simp only [Array.length_toList] at hi hj
  exact h i hi j hj (Nat.eq_of_beq_eq_true he)

/-- Behind k rounds: the outer iterator stands at k; no byte ahead of k is met. -/
def HasI (w : World) (s t : ByteArray) (k : Nat) (wr : World) : Prop :=
  wr.heap[w.heap.size]? = some (.stringIter s k) ∧ Below w.heap.size w wr ∧ ∀ i (hi : i < s.size) j (hj : j < t.size), i < k → (s[i]'hi).toNat ≠ (t[j]'hj).toNat

set_option maxRecDepth 100000 in
set_option maxHeartbeats 400000 in
theorem hasAny_calls (s t : ByteArray) (hs : ∀ i (h : i < s.size), (s[i]'h).toNat < 128) (ht : ∀ i (h : i < t.size), (t[i]'h).toNat < 128) (w : World) :
    Calls Tryd.prog 30 #[.string s, .string t] w fun e w' => e = .returned (.bool (anyIn s.data.toList t.data.toList)) ∧ Below w.heap.size w w' := by
  go_enter Tryd.func30, Tryd.ntmps30
  go_wp2_with fail
  go_loopg [] s.size (fun g wr => ∃ k, k + g = s.size ∧ HasI w s t k wr)
  case atStart => exact ⟨0, by omega, World.iter_heap _ _ _, (Below.refl _ _).alloc (Nat.le_refl _) _, fun _ _ _ _ h => absurd h (Nat.not_lt_zero _)⟩
  case round =>
    obtain ⟨k, hk, hI⟩ := hrel
    by_cases hlt : k < s.size
    · have hnx := fun ty => run_next_at (P := Tryd.prog) wr w.heap.size s k ty hI.1 hlt (hs k hlt)
      go_wp2_with fail
      have hb1 : w.heap.size < wr.heap.size := (Array.getElem?_eq_some_iff.1 hI.1).1
      have B0 : Below w.heap.size w (setIter wr w.heap.size s (k + 1)) := hI.2.1.trans ⟨rfl, rfl, rfl, by rw [setIter_size]; exact Nat.le_refl _, fun i hi => setIter_ne (by omega) _ _⟩
      have h0 : ((setIter wr w.heap.size s (k + 1)).iter t 0).heap[w.heap.size]? = some (.stringIter s (k + 1)) := by
        rw [World.iter, Below.heap_alloc _ _ _ (by rw [setIter_size]; exact hb1), setIter_at hb1]
      have h1 := World.iter_heap (setIter wr w.heap.size s (k + 1)) t 0
      have B1 : Below w.heap.size w ((setIter wr w.heap.size s (k + 1)).iter t 0) := B0.alloc (by rw [setIter_size]; omega) _
      have hne : w.heap.size ≠ (setIter wr w.heap.size s (k + 1)).heap.size := by rw [setIter_size]; omega
      have HS : Hid (∀ i (hi : i < s.size) j (hj : j < t.size), i < k → (s[i]'hi).toNat ≠ (t[j]'hj).toNat) := hI.2.2
      have hr2 : w.heap.size < (setIter wr w.heap.size s (k + 1)).heap.size := by rw [setIter_size]; omega
      clear hnx B0 hb1 hI
      generalize (setIter wr w.heap.size s (k + 1)).heap.size = r2 at *
      generalize (setIter wr w.heap.size s (k + 1)).iter t 0 = W1 at *
      go_loopg [] t.size (fun g2 w2 => ∃ j, j + g2 = t.size ∧ w2.heap[r2]? = some (.stringIter t j) ∧ w2.heap[w.heap.size]? = some (.stringIter s (k + 1)) ∧ Below w.heap.size w w2 ∧ ∀ j' (hj : j' < t.size), j' < j → (s[k]'hlt).toNat ≠ (t[j']'hj).toNat)
      case atStart => exact ⟨0, by omega, h1, h0, B1, fun _ _ h => absurd h (Nat.not_lt_zero _)⟩
      case round =>
        clear h1 h0 B1
        obtain ⟨j, hj, k1, k0, B2, hno⟩ := hrel
        have HN := Lib.hid hno
        clear hno
        by_cases hlj : j < t.size
        · have hnx := fun ty => run_next_at (P := Tryd.prog) wr r2 t j ty k1 hlj (ht j hlj)
          have hgt : r2 < wr.heap.size := (Array.getElem?_eq_some_iff.1 k1).1
          have B3 : Below w.heap.size w (setIter wr r2 t (j + 1)) := B2.trans ⟨rfl, rfl, rfl, by rw [setIter_size]; exact Nat.le_refl _, fun i hi => setIter_ne (by omega) _ _⟩
          have q1 : (setIter wr r2 t (j + 1)).heap[r2]? = some (.stringIter t (j + 1)) := setIter_at hgt _ _
          have q0 : (setIter wr r2 t (j + 1)).heap[w.heap.size]? = some (.stringIter s (k + 1)) := by rw [setIter_ne (by omega)]; exact k0
          clear k1 k0 B2 hgt
          have Q := Lib.hid q1
          have Q0 := Lib.hid q0
          clear q1 q0
          go_wp2_with fail
          · have heq : ((s[k]'hlt).toNat : Int) = ((t[j]'hlj).toNat : Int) := eq_of_beq ‹(_ == _) = true›
            have ha := anyIn_true (s := s) (t := t) hlt hlj (by omega)
            go_ret
            rw [ha]
            exact ⟨rfl, B3⟩
          · have hneq : ¬ ((s[k]'hlt).toNat : Int) = ((t[j]'hlj).toNat : Int) := ne_of_beq_false ‹(_ == _) = false›
            go_roundg (t.size - (j + 1))
            case measure => omega
            case rel => exact ⟨j + 1, by omega, Q.out, Q0.out, B3, fun j' hj' hlt' => by
              by_cases hjj : j' = j
              · subst hjj; omega
              · exact HN.out j' hj' (by omega)⟩
        · have hnx := fun ty => run_next_over (P := Tryd.prog) wr r2 t j ty k1 hlj
          have hj' : j = t.size := by omega
          have K0 := Lib.hid k0
          clear k0 k1
          go_wp2_with fail
          go_roundg (s.size - (k + 1))
          case measure => omega
          case rel => exact ⟨k + 1, by omega, K0.out, B2, fun i hi j' hj2 hik => by
            by_cases hik' : i = k
            · subst hik'; exact HN.out j' hj2 (by omega)
            · exact HS.out i hi j' hj2 (by omega)⟩
    · have hnx := fun ty => run_next_over (P := Tryd.prog) wr w.heap.size s k ty hI.1 hlt
      have ha := anyIn_false (s := s) (t := t) fun i hi j hj => hI.2.2 i hi j hj (by omega)
      have B := hI.2.1
      clear hI
      go_wp2_with fail
      go_ret
      rw [ha]
      exact ⟨rfl, B⟩
end Go.Nfp
