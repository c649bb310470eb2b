/- One round of getTokens for each kind of state and rune, run by the executor. -/
import Derived.Test.YtnboaaelhlbnpaaDoorExec
import Derived.KernelRfl
namespace Go.Nfp
open Go.Proofs
def loopBody : Code → Option Code
  | .loop c => some c
  | .seq a b => match loopBody a with
    | some c => some c
    | none => loopBody b
  | .block _ c => loopBody c
  | .scope c => loopBody c
  | _ => none
noncomputable def gbody : Code := (Tryd.f21.body.bind loopBody).getD .skip
/-- The slots that outlive a round: the parser, the result's cell. -/
def env0 (rb : Nat) : Env := [(0, .ps 0), (2, .res rb)]
def stOf (r : Option (Ex × Env × St)) : Option (Ex × St × Option AV × Option AV) := r.map fun (e, env, s) => (e, s, find env 0, find env 2)
abbrev zeroT : List UInt8 := [90, 101, 114, 111, 80, 108, 97, 99, 101, 72, 111, 108, 100, 101, 114]
abbrev hashT : List UInt8 := [72, 97, 115, 104, 80, 108, 97, 99, 101, 72, 111, 108, 100, 101, 114]
abbrev pctT : List UInt8 := [80, 101, 114, 99, 101, 110, 116]
abbrev dotT : List UInt8 := [68, 101, 99, 105, 109, 97, 108, 80, 111, 105, 110, 116]
abbrev commaT : List UInt8 := [84, 104, 111, 117, 115, 97, 110, 100, 115, 83, 101, 112, 97, 114, 97, 116, 111, 114]
abbrev expT : List UInt8 := [69, 120, 112, 111, 110, 101, 110, 116, 105, 97, 108]
set_option maxRecDepth 100000
theorem r00 (rb : Nat) (toks : List (List UInt8 × List UInt8)) (tv : List UInt8) : stOf (runC gbody (env0 rb) ⟨0, tv, 100, zeroT, toks, some ⟨false, [48], [], []⟩, 4⟩) = some (.normal, ⟨1, tv ++ [48], 108, zeroT, toks, none, 4⟩, some (.ps 0), some (.res rb)) := by kernel_rfl
theorem rhh (rb : Nat) (toks : List (List UInt8 × List UInt8)) (tv : List UInt8) : stOf (runC gbody (env0 rb) ⟨0, tv, 100, hashT, toks, some ⟨false, [35], [], []⟩, 4⟩) = some (.normal, ⟨1, tv ++ [35], 108, hashT, toks, none, 4⟩, some (.ps 0), some (.res rb)) := by kernel_rfl
theorem re0 (rb : Nat) (toks : List (List UInt8 × List UInt8)) : stOf (runC gbody (env0 rb) ⟨0, [], 100, [], toks, some ⟨false, [48], [], []⟩, 4⟩) = some (.normal, ⟨1, [48], 108, zeroT, toks, none, 4⟩, some (.ps 0), some (.res rb)) := by kernel_rfl
theorem reh (rb : Nat) (toks : List (List UInt8 × List UInt8)) : stOf (runC gbody (env0 rb) ⟨0, [], 100, [], toks, some ⟨false, [35], [], []⟩, 4⟩) = some (.normal, ⟨1, [35], 108, hashT, toks, none, 4⟩, some (.ps 0), some (.res rb)) := by kernel_rfl
theorem rh0_1 (rb : Nat) (toks : List (List UInt8 × List UInt8)) : stOf (runC gbody (env0 rb) ⟨0, [35], 100, hashT, toks, some ⟨false, [48], [], []⟩, 4⟩) = some (.normal, ⟨1, [48], 8, zeroT, toks ++ [([35], hashT)], none, 3⟩, some (.ps 0), some (.res rb)) := by kernel_rfl
theorem rh0_2 (rb : Nat) (toks : List (List UInt8 × List UInt8)) : stOf (runC gbody (env0 rb) ⟨0, [35, 35], 100, hashT, toks, some ⟨false, [48], [], []⟩, 4⟩) = some (.normal, ⟨1, [48], 8, zeroT, toks ++ [([35, 35], hashT)], none, 3⟩, some (.ps 0), some (.res rb)) := by kernel_rfl
theorem rh0_3 (rb : Nat) (toks : List (List UInt8 × List UInt8)) : stOf (runC gbody (env0 rb) ⟨0, [35, 35, 35], 100, hashT, toks, some ⟨false, [48], [], []⟩, 4⟩) = some (.normal, ⟨1, [48], 8, zeroT, toks ++ [([35, 35, 35], hashT)], none, 3⟩, some (.ps 0), some (.res rb)) := by kernel_rfl
theorem rh0_4 (rb : Nat) (toks : List (List UInt8 × List UInt8)) : stOf (runC gbody (env0 rb) ⟨0, [35, 35, 35, 35], 100, hashT, toks, some ⟨false, [48], [], []⟩, 4⟩) = some (.normal, ⟨1, [48], 8, zeroT, toks ++ [([35, 35, 35, 35], hashT)], none, 3⟩, some (.ps 0), some (.res rb)) := by kernel_rfl
theorem rh0_5 (rb : Nat) (toks : List (List UInt8 × List UInt8)) : stOf (runC gbody (env0 rb) ⟨0, [35, 35, 35, 35, 35], 100, hashT, toks, some ⟨false, [48], [], []⟩, 4⟩) = some (.normal, ⟨1, [48], 8, zeroT, toks ++ [([35, 35, 35, 35, 35], hashT)], none, 3⟩, some (.ps 0), some (.res rb)) := by kernel_rfl
theorem rh0_6 (rb : Nat) (toks : List (List UInt8 × List UInt8)) : stOf (runC gbody (env0 rb) ⟨0, [35, 35, 35, 35, 35, 35], 100, hashT, toks, some ⟨false, [48], [], []⟩, 4⟩) = some (.normal, ⟨1, [48], 8, zeroT, toks ++ [([35, 35, 35, 35, 35, 35], hashT)], none, 3⟩, some (.ps 0), some (.res rb)) := by kernel_rfl
theorem rh0_7 (rb : Nat) (toks : List (List UInt8 × List UInt8)) : stOf (runC gbody (env0 rb) ⟨0, [35, 35, 35, 35, 35, 35, 35], 100, hashT, toks, some ⟨false, [48], [], []⟩, 4⟩) = some (.normal, ⟨1, [48], 8, zeroT, toks ++ [([35, 35, 35, 35, 35, 35, 35], hashT)], none, 3⟩, some (.ps 0), some (.res rb)) := by kernel_rfl
theorem rh0_8 (rb : Nat) (toks : List (List UInt8 × List UInt8)) : stOf (runC gbody (env0 rb) ⟨0, [35, 35, 35, 35, 35, 35, 35, 35], 100, hashT, toks, some ⟨false, [48], [], []⟩, 4⟩) = some (.normal, ⟨1, [48], 8, zeroT, toks ++ [([35, 35, 35, 35, 35, 35, 35, 35], hashT)], none, 3⟩, some (.ps 0), some (.res rb)) := by kernel_rfl
theorem rx0 (rb : Nat) (toks : List (List UInt8 × List UInt8)) : stOf (runC gbody (env0 rb) ⟨0, [69, 43], 100, expT, toks, some ⟨false, [48], [], []⟩, 4⟩) = some (.normal, ⟨1, [48], 8, zeroT, toks ++ [([69, 43], expT)], none, 3⟩, some (.ps 0), some (.res rb)) := by kernel_rfl
theorem rhc (rb : Nat) (toks : List (List UInt8 × List UInt8)) (tv : List UInt8) : stOf (runC gbody (env0 rb) ⟨0, tv, 100, hashT, toks, some ⟨false, [44], [], []⟩, 4⟩) = some (.normal, ⟨1, [], 0, [], toks ++ [(tv, hashT)] ++ [([44], commaT)], none, 2⟩, some (.ps 0), some (.res rb)) := by kernel_rfl
theorem r0d (rb : Nat) (toks : List (List UInt8 × List UInt8)) (tv : List UInt8) : stOf (runC gbody (env0 rb) ⟨0, tv, 100, zeroT, toks, some ⟨false, [46], [], []⟩, 4⟩) = some (.normal, ⟨1, [], 0, [], toks ++ [(tv, zeroT)] ++ [([46], dotT)], none, 2⟩, some (.ps 0), some (.res rb)) := by kernel_rfl
theorem r0p (rb : Nat) (toks : List (List UInt8 × List UInt8)) (tv : List UInt8) : stOf (runC gbody (env0 rb) ⟨0, tv, 100, zeroT, toks, some ⟨false, [37], [], []⟩, 4⟩) = some (.normal, ⟨1, [37], 8, pctT, toks ++ [(tv, zeroT)], none, 3⟩, some (.ps 0), some (.res rb)) := by kernel_rfl
theorem r0x (rb : Nat) (toks : List (List UInt8 × List UInt8)) (tv : List UInt8) : stOf (runC gbody (env0 rb) ⟨0, tv, 100, zeroT, toks, some ⟨false, [69], [], [69, 43]⟩, 4⟩) = some (.normal, ⟨2, [69, 43], 8, expT, toks ++ [(tv, zeroT)], none, 3⟩, some (.ps 0), some (.res rb)) := by kernel_rfl
theorem reof (rb : Nat) (toks : List (List UInt8 × List UInt8)) (tv tt : List UInt8) : stOf (runC gbody (env0 rb) ⟨0, tv, 100, tt, toks, some ⟨true, [], [], []⟩, 4⟩) = some (.exit 0, ⟨0, tv, 100, tt, toks, some ⟨true, [], [], []⟩, 4⟩, some (.ps 0), some (.res rb)) := by kernel_rfl
/-- What stands behind the loop: a last token is added, if its value is not empty. -/
noncomputable def gtail : Code := match Tryd.f21.body with
  | some (.seq _ (.seq _ (.seq t _))) => t
  | _ => .skip
theorem g0_1 (rb : Nat) (toks : List (List UInt8 × List UInt8)) : stOf (runC gtail (env0 rb) ⟨0, [48], 100, zeroT, toks, some ⟨true, [], [], []⟩, 4⟩) = some (.normal, ⟨0, [48], 100, zeroT, toks ++ [([48], zeroT)], some ⟨true, [], [], []⟩, 3⟩, some (.ps 0), some (.res rb)) := by kernel_rfl
theorem g0_2 (rb : Nat) (toks : List (List UInt8 × List UInt8)) : stOf (runC gtail (env0 rb) ⟨0, [48, 48], 100, zeroT, toks, some ⟨true, [], [], []⟩, 4⟩) = some (.normal, ⟨0, [48, 48], 100, zeroT, toks ++ [([48, 48], zeroT)], some ⟨true, [], [], []⟩, 3⟩, some (.ps 0), some (.res rb)) := by kernel_rfl
theorem g0_3 (rb : Nat) (toks : List (List UInt8 × List UInt8)) : stOf (runC gtail (env0 rb) ⟨0, [48, 48, 48], 100, zeroT, toks, some ⟨true, [], [], []⟩, 4⟩) = some (.normal, ⟨0, [48, 48, 48], 100, zeroT, toks ++ [([48, 48, 48], zeroT)], some ⟨true, [], [], []⟩, 3⟩, some (.ps 0), some (.res rb)) := by kernel_rfl
theorem g0_4 (rb : Nat) (toks : List (List UInt8 × List UInt8)) : stOf (runC gtail (env0 rb) ⟨0, [48, 48, 48, 48], 100, zeroT, toks, some ⟨true, [], [], []⟩, 4⟩) = some (.normal, ⟨0, [48, 48, 48, 48], 100, zeroT, toks ++ [([48, 48, 48, 48], zeroT)], some ⟨true, [], [], []⟩, 3⟩, some (.ps 0), some (.res rb)) := by kernel_rfl
theorem g0_5 (rb : Nat) (toks : List (List UInt8 × List UInt8)) : stOf (runC gtail (env0 rb) ⟨0, [48, 48, 48, 48, 48], 100, zeroT, toks, some ⟨true, [], [], []⟩, 4⟩) = some (.normal, ⟨0, [48, 48, 48, 48, 48], 100, zeroT, toks ++ [([48, 48, 48, 48, 48], zeroT)], some ⟨true, [], [], []⟩, 3⟩, some (.ps 0), some (.res rb)) := by kernel_rfl
theorem g0_6 (rb : Nat) (toks : List (List UInt8 × List UInt8)) : stOf (runC gtail (env0 rb) ⟨0, [48, 48, 48, 48, 48, 48], 100, zeroT, toks, some ⟨true, [], [], []⟩, 4⟩) = some (.normal, ⟨0, [48, 48, 48, 48, 48, 48], 100, zeroT, toks ++ [([48, 48, 48, 48, 48, 48], zeroT)], some ⟨true, [], [], []⟩, 3⟩, some (.ps 0), some (.res rb)) := by kernel_rfl
theorem g0_7 (rb : Nat) (toks : List (List UInt8 × List UInt8)) : stOf (runC gtail (env0 rb) ⟨0, [48, 48, 48, 48, 48, 48, 48], 100, zeroT, toks, some ⟨true, [], [], []⟩, 4⟩) = some (.normal, ⟨0, [48, 48, 48, 48, 48, 48, 48], 100, zeroT, toks ++ [([48, 48, 48, 48, 48, 48, 48], zeroT)], some ⟨true, [], [], []⟩, 3⟩, some (.ps 0), some (.res rb)) := by kernel_rfl
theorem g0_8 (rb : Nat) (toks : List (List UInt8 × List UInt8)) : stOf (runC gtail (env0 rb) ⟨0, [48, 48, 48, 48, 48, 48, 48, 48], 100, zeroT, toks, some ⟨true, [], [], []⟩, 4⟩) = some (.normal, ⟨0, [48, 48, 48, 48, 48, 48, 48, 48], 100, zeroT, toks ++ [([48, 48, 48, 48, 48, 48, 48, 48], zeroT)], some ⟨true, [], [], []⟩, 3⟩, some (.ps 0), some (.res rb)) := by kernel_rfl
theorem gp (rb : Nat) (toks : List (List UInt8 × List UInt8)) : stOf (runC gtail (env0 rb) ⟨0, [37], 100, pctT, toks, some ⟨true, [], [], []⟩, 4⟩) = some (.normal, ⟨0, [37], 100, pctT, toks ++ [([37], pctT)], some ⟨true, [], [], []⟩, 3⟩, some (.ps 0), some (.res rb)) := by kernel_rfl
end Go.Nfp
