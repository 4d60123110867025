/- Plain: what the package's substitution makes of a text, as the package's own steps, over lists of bytes. No program in sight. -/
import Derived.Lib.Index
namespace Go.Proofs.YtlncdacoefoldaaGreatDoor.U
set_option linter.unusedVariables false
set_option linter.unusedSimpArgs false
set_option linter.unusedSectionVars false

abbrev Bs := List UInt8
inductive Cls where
  | invalid
  | missing
deriving DecidableEq
def isL (c : UInt8) : Bool := c == 95 || (decide (97 ≤ c) && decide (c ≤ 122)) || (decide (65 ≤ c) && decide (c ≤ 90))
def isD (c : UInt8) : Bool := decide (48 ≤ c) && decide (c ≤ 57)
def isS (c : UInt8) : Bool := c == 45 || c == 43 || c == 63
/-- how many bytes a letter has that stands at the head; 0: none -/
def letN : Bs → Nat
  | [] => 0
  | c :: r => if isL c then 1 else if c == 0xc5 && r.take 1 == [0xbf] then 2 else if c == 0xe2 && r.take 2 == [0x84, 0xaa] then 3 else 0
def charN (l : Bs) : Nat := match l with
  | [] => 0
  | c :: _ => if letN l = 0 ∧ isD c = true then 1 else letN l
/-- how many bytes of a name go on -/
def more : Bs → Nat → Nat
  | [], _ => 0
  | _ :: r, k + 1 => 1 + more r k
  | c :: r, 0 => if charN (c :: r) = 0 then 0 else 1 + more r (charN (c :: r) - 1)
def nameN (l : Bs) : Nat := if letN l = 0 then 0 else more l 0
/-- how many bytes an operator has at the head; 0: none -/
def opN : Bs → Nat
  | [] => 0
  | c :: r => if c = 58 then (if (r.head?.map isS).getD false then 2 else 0) else if isS c then 1 else 0
/-- the last closing brace ahead of a line feed -/
def lastB : Bs → Option Nat
  | [] => none
  | c :: r => if c = 10 then none else match lastB r with
    | some i => some (i + 1)
    | none => if c = 125 then some 0 else none
structure M where
  all : Bs
  esc : Bs
  named : Bs
  braced : Bs
  op : Bs
deriving DecidableEq
def bad : M := ⟨[36, 123], [], [], [], []⟩
def bracedM (r : Bs) : M :=
  if nameN r = 0 then bad
  else if (r.drop (nameN r)).head? = some 125 then ⟨36 :: 123 :: r.take (nameN r + 1), [], [], r.take (nameN r), []⟩
  else if opN (r.drop (nameN r)) = 0 then bad
  else match lastB (r.drop (nameN r + opN (r.drop (nameN r)))) with
    | none => bad
    | some j => ⟨36 :: 123 :: r.take (nameN r + opN (r.drop (nameN r)) + j + 1), [], [], r.take (nameN r + opN (r.drop (nameN r)) + j), (r.drop (nameN r + opN (r.drop (nameN r)))).take j⟩
/-- the match at the head -/
def atM : Bs → Option M
  | [] => none
  | [_] => none
  | c :: d :: r => if c ≠ 36 then none else if d = 36 then some ⟨[36, 36], [36], [], [], []⟩
    else if nameN (d :: r) ≠ 0 then some ⟨36 :: (d :: r).take (nameN (d :: r)), [], (d :: r).take (nameN (d :: r)), [], []⟩
    else if d ≠ 123 then none else some (bracedM r)
def find : Bs → Option M
  | [] => none
  | c :: r => match atM (c :: r) with
    | some m => some m
    | none => find r
/-- the brace that closes the first one -/
def fb : Bs → Int → Bool → Option Nat
  | [], _, _ => none
  | _ :: r, d, true => (fb r d false).map (· + 1)
  | c :: r, d, false => if c = 125 then (if d - 1 = 0 then some 0 else (fb r (d - 1) false).map (· + 1)) else if c = 123 then (fb r (d + 1) true).map (· + 1) else (fb r d false).map (· + 1)
def signOf : Bs → Option Bs
  | [] => none
  | c :: r => if opN (c :: r) = 0 then signOf r else some ((c :: r).take (opN (c :: r)))
/-- the place of a text in a text -/
def idx (s : Bs) : Bs → Option Nat
  | [] => if s = [] then some 0 else none
  | c :: r => if s.isPrefixOf (c :: r) then some 0 else (idx s r).map (· + 1)
abbrev Env := Bs → Option Bs
abbrev Ans := Option (Bs × Option Cls)
/-- an operator's work; none within: it does not apply -/
def wordA (f : Bs → Ans) (env : Env) (sg x : Bs) : Option (Option (Bs × Option Cls)) := match idx sg x with
  | none => some none
  | some i =>
    let v := env (x.take i)
    let set := match v with
      | none => false
      | some y => !(sg.length == 2 && y == [])
    let w := f (x.drop (i + sg.length))
    match sg.getLast? with
    | some 45 => if set then some (some (v.getD [], none)) else w.map some
    | some 43 => if set then w.map some else some (some ([], none))
    | _ => if set then some (some (v.getD [], none)) else w.map (fun p => some ([], some (p.2.getD .missing)))
/-- what stands in the place of a match -/
def repl (f : Bs → Ans) (env : Env) (t : Bs) : Ans :=
  let cut := match fb t 0 false with
    | some i => (t.take (i + 1), t.drop (i + 1))
    | none => (t, [])
  match find cut.1 with
  | none => none
  | some m => if m.esc ≠ [] then some (m.esc, none) else if m.named ≠ [] then some ((env m.named).getD [], none) else if m.braced = [] then some ([], some .invalid)
    else match signOf t with
      | none => some ((env m.braced).getD [], none)
      | some sg => match wordA f env sg m.braced with
        | none => none
        | some none => some ((env m.braced).getD [], none)
        | some (some (_, some c)) => some ([], some c)
        | some (some (v, none)) => match f cut.2 with
          | none => none
          | some (_, some c) => some ([], some c)
          | some (x, none) => some (v ++ x, none)
def scan (f : Bs → Ans) (env : Env) : Bs → Nat → Ans
  | [], _ => some ([], none)
  | _ :: r, k + 1 => scan f env r k
  | c :: r, 0 => match atM (c :: r) with
    | none => match scan f env r 0 with
      | none => none
      | some (t, e) => some (c :: t, e)
    | some m => match repl f env m.all with
      | none => none
      | some (v, e) => match scan f env r (m.all.length - 1) with
        | none => none
        | some (t, e') => some (v ++ t, e.or e')
def LIM : Nat := 17592186044416
def sub (env : Env) : Nat → Bs → Ans
  | 0, _ => none
  | n + 1, t => match scan (sub env n) env t 0 with
    | none => none
    | some p => if p.1.length ≤ LIM then some p else none
/-! ### the known answer -/
end Go.Proofs.YtlncdacoefoldaaGreatDoor.U
