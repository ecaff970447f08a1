/- Statements of a text, by their numbers. -/
import Derived.Test.Qxb6001311aBuildP
namespace Go.Proofs.Qxb6001311a

/-- Region n of a text. -/
def regAt (n : Nat) : Code → Option Code
  | .region m ops d => if m = n then some (.region m ops d) else none
  | .seq a b => match regAt n a with
    | some c => some c
    | none => regAt n b
  | .block _ c => regAt n c
  | .scope c => regAt n c
  | .loop c => regAt n c
  | .cond _ a b => match regAt n a with
    | some c => some c
    | none => regAt n b
  | _ => none
def isTmp (n : Nat) : Operand → Bool
  | .tmp m => m == n
  | _ => false
/-- The 'if' on slot n of a text. -/
def condAt (n : Nat) : Code → Option Code
  | .cond c a b => if isTmp n c = true then some (.cond c a b) else match condAt n a with
    | some c => some c
    | none => condAt n b
  | .seq a b => match condAt n a with
    | some c => some c
    | none => condAt n b
  | .block _ c => condAt n c
  | .scope c => condAt n c
  | .loop c => condAt n c
  | _ => none
/-- Block n of a text. -/
def blockAt (n : Nat) : Code → Option Code
  | .block m c => if m = n then some (.block m c) else blockAt n c
  | .cond _ a b => match blockAt n a with
    | some c => some c
    | none => blockAt n b
  | .seq a b => match blockAt n a with
    | some c => some c
    | none => blockAt n b
  | .scope c => blockAt n c
  | .loop c => blockAt n c
  | _ => none
end Go.Proofs.Qxb6001311a
