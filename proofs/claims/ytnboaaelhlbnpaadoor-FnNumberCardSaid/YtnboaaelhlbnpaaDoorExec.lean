/- An executor for the pieces of getTokens: values of the parser's own kinds, a state of the parser, and a run of code without loops; it only computes. -/
import Derived.WalkKit
import Derived.Test.YtnboaaelhlbnpaaDoorQTail
import Derived.Test.YtnboaaelhlbnpaaDoorProg
namespace Go.Nfp
open Go

abbrev tParser : Nat := 47
abbrev tTok : Nat := 45
abbrev tToks : Nat := 42
abbrev tSec : Nat := 52
abbrev tSecs : Nat := 40
abbrev tItems : Nat := 50
abbrev tStr : Nat := 9
abbrev tInt : Nat := 3
abbrev tBool : Nat := 4
abbrev tParts : Nat := 43
abbrev fEOF : Nat := 25
abbrev fCur : Nat := 26
abbrev fHasAny : Nat := 30
abbrev fAdd : Nat := 31
abbrev fUpper : Nat := 34
abbrev fFold : Nat := 38
abbrev fDbl : Nat := 39
abbrev nSlots : Nat := 2599

/-- What a slot holds: a pointer to cell k of the parser, a text with a bound on its length, the parser's offset at the round's start plus d, a number, a Bool, the nil slice, a token by value (its parts nil), a pointer to the result's cell, nothing. -/
inductive AV where
  | ps (k : Nat)
  | str (l : List UInt8) (b : Nat)
  | off (d : Nat)
  | int (n : Int)
  | bool (b : Bool)
  | nils
  | tok (v : List UInt8) (b : Nat) (t : List UInt8)
  | res (b : Nat)
  | junk

def bs (l : List UInt8) : ByteArray := ⟨l.toArray⟩

def AV.conc (bp o0 : Nat) : AV → Value
  | .ps k => .pointer (some ⟨bp, k, none⟩)
  | .str l _ => .string (bs l)
  | .off d => .int .i64 ((o0 + d : Nat) : Int)
  | .int n => .int .i64 n
  | .bool b => .bool b
  | .nils => .slice none 0 0
  | .tok v _ t => .agg #[.string (bs v), .string (bs t), .slice none 0 0]
  | .res b => .pointer (some ⟨b, 0, none⟩)
  | .junk => undef

def AV.ok : AV → Prop
  | .str l b => l.length ≤ b ∧ b ≤ 8192
  | .tok v b _ => v.length ≤ b ∧ b ≤ 8192
  | _ => True

structure Look where
  eof : Bool
  cur : List UInt8
  nxt : List UInt8
  dbl : List UInt8

/-- The parser's state, within a round: how far the offset has gone since the round's start; the token's value (its length's bound) and type; the tokens so far; what stands at the offset; how many tokens may still be added in this round. -/
structure St where
  d : Nat
  tv : List UInt8
  tvb : Nat
  tt : List UInt8
  toks : List (List UInt8 × List UInt8)
  look : Option Look
  left : Nat

abbrev Env := List (Nat × AV)

def find : Env → Nat → Option AV
  | [], _ => none
  | (t, x) :: l, s => match Nat.beq t s with
    | true => some x
    | false => find l s

def ofConst : Value → Option AV
  | .string s => bif Nat.ble s.data.toList.length 8192 then some (.str s.data.toList s.data.toList.length) else none
  | .bool b => some (.bool b)
  | .int .i64 n => some (.int n)
  | .slice none 0 0 => some .nils
  | _ => none

def arg (env : Env) : Operand → Option AV
  | .tmp t => find env t
  | .const v => ofConst v
  | _ => none

def argList (env : Env) : List Operand → Option (List AV)
  | [] => some []
  | x :: xs => match arg env x with
    | none => none
    | some v => match argList env xs with
      | none => none
      | some vs => some (v :: vs)

def foff (T f : Nat) : Option Nat :=
  bif Nat.beq T tParser then (bif Nat.ble f 6 then some f else bif Nat.beq f 7 then some 9 else none)
  else bif Nat.beq T tTok then (bif Nat.ble f 2 then some f else none)
  else bif Nat.beq T tToks then (bif Nat.ble f 2 then some f else none)
  else none

def loadC (st : St) (T k : Nat) : Option AV :=
  bif Nat.beq T tBool && Nat.ble k 1 then some (.bool false)
  else bif Nat.beq T tInt && Nat.beq k 5 then some (.off st.d)
  else bif Nat.beq T tStr && Nat.beq k 9 then some (.str st.tv st.tvb)
  else bif Nat.beq T tStr && Nat.beq k 10 then some (.str st.tt 64)
  else bif Nat.beq T tParts && Nat.beq k 11 then some .nils
  else none

def storeC (st : St) (T k : Nat) (x : AV) : Option St :=
  match x with
  | .tok v b t => bif Nat.beq T tTok && Nat.beq k 9 && Nat.ble b 4096 && Nat.ble t.length 64 then some { st with tv := v, tvb := b, tt := t } else none
  | .str l b => bif Nat.beq T tStr && Nat.beq k 9 && Nat.ble b 4096 then some { st with tv := l, tvb := b }
    else bif Nat.beq T tStr && Nat.beq k 10 && Nat.ble b 64 then some { st with tt := l } else none
  | .off d => bif Nat.beq T tInt && Nat.beq k 5 && Nat.ble d 16 then some { st with d := d, look := none } else none
  | _ => none

def binC (op : BinOp) (T : Nat) (x y : AV) : Option AV :=
  match x, y with
  | .str a b, .str c d => bif Nat.beq T tStr then (match op with
      | .eql => some (.bool (a == c))
      | .neq => some (.bool (!(a == c)))
      | .add => bif Nat.ble (b + d) 8192 then some (.str (a ++ c) (b + d)) else none
      | _ => none) else none
  | .off d, .int n => bif Nat.beq T tInt then (match op with
      | .add => (match n with
        | .ofNat m => bif Nat.ble (d + m) 16 then some (.off (d + m)) else none
        | _ => none)
      | _ => none) else none
  | .int a, .int b => bif Nat.beq T tInt then (match op with
      | .gtr => some (.bool (decide (a > b)))
      | _ => none) else none
  | _, _ => none

def partOf (env : Env) (i : Nat) : List (Nat × Operand) → Option AV
  | [] => some (.str [] 0)
  | (j, x) :: r => match Nat.beq i j with
    | true => arg env x
    | false => partOf env i r

/-- A token built of at most its value and its type: no parts, one or two parts in either order. -/
def buildC (env : Env) (parts : List (Nat × Operand)) : Option AV :=
  match parts with
  | [] => some (.tok [] 0 [])
  | [(1, y)] => match arg env y with
    | some (.str t _) => bif Nat.ble t.length 64 then some (.tok [] 0 t) else none
    | _ => none
  | [(1, y), (0, x)] => match arg env x, arg env y with
    | some (.str v b), some (.str t _) => bif Nat.ble t.length 64 then some (.tok v b t) else none
    | _, _ => none
  | _ => none

def pureOp (env : Env) (st : St) (op : Op) : Option AV :=
  match op with
  | .move x => arg env x
  | .assign x => arg env x
  | .nilCheck x => match arg env x with
    | some (.ps k) => some (.ps k)
    | _ => none
  | .fieldAddr T x f => match arg env x with
    | some (.ps k) => (match foff T f with
      | some c => some (.ps (k + c))
      | none => none)
    | _ => none
  | .load T x => match arg env x with
    | some (.ps k) => loadC st T k
    | _ => none
  | .binOp op T x y _ => match arg env x with
    | some a => (match arg env y with
      | some b => binC op T a b
      | none => none)
    | none => none
  | .unOp .not _ x => match arg env x with
    | some (.bool b) => some (.bool (!b))
    | _ => none
  | .pick c x y => match arg env c with
    | some (.bool true) => arg env x
    | some (.bool false) => arg env y
    | _ => none
  | .build T parts => bif Nat.beq T tTok then buildC env parts.toList else none
  | _ => none

def asciiAll : List UInt8 → Bool
  | [] => true
  | c :: l => Nat.blt c.toNat 128 && asciiAll l

def noLower : List UInt8 → Bool
  | [] => true
  | c :: l => (Nat.blt c.toNat 97 || Nat.blt 122 c.toNat) && Nat.blt c.toNat 128 && noLower l

def anyIn (a b : List UInt8) : Bool := a.any fun c => b.any fun d => Nat.beq c.toNat d.toNat

/-- The calls that leave the parser as it is. -/
def qcall (st : St) (f : Nat) (xs : List AV) : Option AV :=
  match xs with
  | [.ps 0] => (match st.look with
    | none => none
    | some k => bif Nat.beq f fEOF then some (.bool k.eof)
      else bif k.eof then none
      else bif Nat.beq f fCur then some (.str k.cur 8)
      else bif Nat.beq f fDbl then (match k.dbl with
        | [] => none
        | c :: l => some (.str (c :: l) 8))
      else none)
  | [.str a _, .str c _] => bif Nat.beq f fHasAny && asciiAll a && asciiAll c && Nat.ble a.length 64 && Nat.ble c.length 64 then some (.bool (anyIn a c))
      else bif Nat.beq f fFold && (a == c) && asciiAll a && Nat.ble a.length 64 then some (.bool true)
      else none
  | [.str a b] => bif Nat.beq f fUpper && noLower a && Nat.ble a.length 64 then some (.str a b) else none
  | _ => none

/-- The call that adds a token. -/
def ecall (st : St) (f : Nat) (xs : List AV) : Option (AV × St) :=
  match xs with
  | [.ps 6, .str v b, .str t _, .nils] => bif Nat.beq f fAdd && Nat.ble t.length 64 then (match st.left with
      | 0 => none
      | m + 1 => some (.tok v b t, { st with toks := st.toks ++ [(v, t)], left := m })) else none
  | _ => none

def wantedC (ops : List Oper) (env : Env) (o : Oper) : Option Bool :=
  match o.guard with
  | none => some true
  | some (j, want) => match ops[j]? with
    | none => none
    | some oj => match oj.dst with
      | none => none
      | some t => match find env t with
        | some (.bool b) => some (b == want)
        | some .junk => some false
        | _ => none

/-- What an operation comes to: a value, or nothing (a store); the parser's state behind it. -/
inductive Res where
  | val (v : AV) (st : St)
  | done (st : St)

def opC (env : Env) (st : St) (op : Op) : Option Res :=
  match op with
  | .store T ad x => match arg env ad with
    | some (.ps k) => (match arg env x with
      | some v => (match storeC st T k v with
        | some st' => some (.done st')
        | none => none)
      | none => none)
    | _ => none
  | .call c => (match c.callee with
    | .value (.func f) => (match argList env c.args.toList with
      | none => none
      | some xs => match qcall st f xs with
        | some v => some (.val v st)
        | none => match ecall st f xs with
          | some (v, st') => some (.val v st')
          | none => none)
    | .builtin .len => (match argList env c.args.toList with
      | some [.str l _] => (match c.argTypes.toList with
        | [t] => bif Nat.beq t tStr then some (.val (.int l.length) st) else none
        | _ => none)
      | _ => none)
    | _ => none)
  | op => match pureOp env st op with
    | some v => some (.val v st)
    | none => none

def stepC (ops : List Oper) (env : Env) (st : St) (o : Oper) : Option (Env × St) :=
  match wantedC ops env o with
  | some true => (match opC env st o.op with
    | some (.val v st') => (match o.dst with
      | some t => bif Nat.blt t nSlots then some ((t, v) :: env, st') else none
      | none => none)
    | some (.done st') => (match o.dst with
      | some _ => none
      | none => some (env, st'))
    | none => none)
  | some false => (match o.dst with
    | some t => bif Nat.blt t nSlots then some ((t, .junk) :: env, st) else none
    | none => none)
  | none => none

def runL (ops : List Oper) : List Oper → Env → St → Option (Env × St)
  | [], env, st => some (env, st)
  | o :: r, env, st => match stepC ops env st o with
    | some (env', st') => runL ops r env' st'
    | none => none

/-- An operation that does not write: all but a store and the call that adds a token. -/
def quietB (o : Oper) : Bool :=
  match o.op with
  | .store _ _ _ => false
  | .call c => (match c.callee with
    | .value (.func f) => !(Nat.beq f fAdd)
    | _ => true)
  | _ => true

def headLen : List Oper → Nat
  | [] => 0
  | o :: r => bif quietB o then headLen r + 1 else 0

def regionC (l : List Oper) (draw : Bool) (env : Env) (st : St) : Option (Env × St) :=
  match draw with
  | false => runL l l env st
  | true => bif Nat.beq (headLen l) l.length
      then (bif Region.lexB .any l.toArray then runL l l env st else none)
      else (bif Region.lexTailB .any l.toArray (headLen l) then runL l l env st else none)

inductive Ex where
  | normal
  | exit (id : Nat)

def Ex.toExit : Ex → Exit
  | .normal => .normal
  | .exit i => .exit i

def runC : Code → Env → St → Option (Ex × Env × St)
  | .skip, env, st => some (.normal, env, st)
  | .region _ ops draw, env, st => match regionC ops.toList draw env st with
    | some (env', st') => some (.normal, env', st')
    | none => none
  | .seq a b, env, st => match runC a env st with
    | some (.normal, env', st') => runC b env' st'
    | r => r
  | .cond c x y, env, st => match arg env c with
    | some (.bool true) => runC x env st
    | some (.bool false) => runC y env st
    | _ => none
  | .block i c, env, st => match runC c env st with
    | some (.exit j, env', st') => bif Nat.beq j i then some (.normal, env', st') else some (.exit j, env', st')
    | r => r
  | .exit i, env, st => some (.exit i, env, st)
  | _, _, _ => none

end Go.Nfp
