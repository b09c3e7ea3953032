/- How two cells stand by a rule of sorting, as plain functions over texts, floats' bits and modes. No condition. -/
import Derived.Laws.Cover2
import Derived.Laws.Cover1
namespace Go.Proofs.YtgolhmiocjpohaaGreatDoor

/-- A rule of sorting. -/
structure Rule where
  number : Int
  mode : Int
  fold : Bool
  deriving Inhabited

def fEq (x y : Nat) : Bool := FloatKind.f64.format.order x y == some .eq
def fLt (x y : Nat) : Bool := FloatKind.f64.format.order x y == some .lt
def fGt (x y : Nat) : Bool := FloatKind.f64.format.order x y == some .gt
def sEq (a b : ByteArray) : Bool := a.toList == b.toList
def sLt (a b : ByteArray) : Bool := Op.bytesLess a.toList b.toList
def sGt (a b : ByteArray) : Bool := !(Op.bytesLess a.toList b.toList || a.toList == b.toList)

/-- Texts: alike, and ahead. -/
def befTexts (low : ByteArray → ByteArray) (a b : ByteArray) (falls fold : Bool) : Bool × Bool :=
  if fold then
    (sEq (low a) (low b), if falls then ((sEq (low a) (low b)) && sGt a b) || sGt (low a) (low b) else ((sEq (low a) (low b)) && sLt a b) || sLt (low a) (low b))
  else (false, if falls then sGt a b else sLt a b)

/-- Numbers, by their bits. -/
def befNums (x y : Nat) (falls : Bool) : Bool × Bool :=
  if fEq x y then (true, false) else (false, if falls then fGt x y else fLt x y)

/-- Two numbers, if both are. -/
def numPair (falls : Bool) : Option Nat → Option Nat → Bool × Bool
  | some x, some y => befNums x y falls
  | _, _ => (false, false)

def fallsN (m : Int) : Bool := !(m == 1 || m == 2 || m == 3)
def fallsT (m : Int) : Bool := !(m == 0 || m == 1 || m == 3)

/-- Texts and numbers mixed. -/
def mixPair (low : ByteArray → ByteArray) (a b : ByteArray) (m : Int) (fold : Bool) : Option Nat → Option Nat → Bool × Bool
  | none, none => befTexts low a b (fallsT m) fold
  | none, some _ => (false, m == 1 || m == 5)
  | some _, none => (false, !(m == 1 || m == 5))
  | some x, some y => befNums x y (fallsN m)

/-- Two cells, by a rule's mode. -/
def bef (low : ByteArray → ByteArray) (num : ByteArray → Option Nat) (a b : ByteArray) (m : Int) (fold : Bool) : Bool × Bool :=
  if sEq a b then (true, false)
  else if m == 0 || m == 4 then befTexts low a b (fallsT m) fold
  else if m == 2 || m == 6 then numPair (fallsN m) (num a) (num b)
  else mixPair low a b m fold (num a) (num b)

/-- The i-th text of a list (an empty one beyond it); behind a name of its own, for the walks. -/
def sAt (ss : List ByteArray) (i : Nat) : ByteArray := ss.getD i ByteArray.empty

/-- A row's cell in a column (from 1 on); an empty one, if there is none. -/
def cellOf (row : List ByteArray) (n : Int) : ByteArray := if n ≤ row.length then sAt row (n - 1).toNat else ⟨#[]⟩

/-- The i-th rule of a list. -/
def rAt (rs : List Rule) (i : Nat) : Rule := rs.getD i default

/-- Whether a row comes ahead of another one by rules: the reference's. -/
def rowAhead (low : ByteArray → ByteArray) (num : ByteArray → Option Nat) (columns : Int) : List Rule → List ByteArray → List ByteArray → Bool
  | [], _, _ => false
  | r :: rs, a, b =>
    if r.number < 1 ∨ r.number > columns then rowAhead low num columns rs a b
    else
      let p := bef low num (cellOf a r.number) (cellOf b r.number) r.mode r.fold
      if p.1 then rowAhead low num columns rs a b else p.2

/-- What the rules ask of two rows' cells. -/
def RowsOk (Dom : ByteArray → Prop) (columns : Int) (rs : List Rule) (a : List ByteArray) : Prop :=
  ∀ r ∈ rs, 1 ≤ r.number → r.number ≤ columns → Dom (cellOf a r.number)

def ModesOk (rs : List Rule) : Prop := ∀ r ∈ rs, 0 ≤ r.mode ∧ r.mode ≤ 7

end Go.Proofs.YtgolhmiocjpohaaGreatDoor
