/-
  Plain functions on lists: what the scripts, the reference and the encoding compute. Conditions: none. No program in sight.
-/
import Derived.Sort.EncStr
namespace Go.Proofs.YtjgjiaflccdflaaDoor

abbrev Bs := List UInt8

/-- A step of a script. -/
structure Stp where
  kind : Int
  key : Bs
  val : Bs

section
variable {α : Type}

/-- where a key stands, or would stand -/
def placeE : List (Bs × α) → Bs → Nat
  | [], _ => 0
  | e :: r, k => if e.1 < k then placeE r k + 1 else 0

/-- entries in which a key has just this -/
def withE : List (Bs × α) → Bs → α → List (Bs × α)
  | [], k, v => [(k, v)]
  | e :: r, k, v => if e.1 < k then e :: withE r k v else if e.1 = k then (k, v) :: r else (k, v) :: e :: r

def withoutE (l : List (Bs × α)) (k : Bs) : List (Bs × α) := l.filter fun e => !(e.1 == k)

def ofE : List (Bs × α) → Bs → Option α
  | [], _ => none
  | e :: r, k => if e.1 < k then ofE r k else if e.1 = k then some e.2 else none

def tidyE (l : List (Bs × α)) : List (Bs × α) := l.foldl (fun m e => withE m e.1 e.2) []

end

abbrev Ent := Bs × List Bs

def oneE (m : List Ent) (s : Stp) : List Ent :=
  if s.kind = 1 then withE m s.key ((ofE m s.key).getD [] ++ [s.val]) else if s.kind = 2 then withE m s.key [s.val] else if s.kind = 3 then withoutE m s.key else m

def playE (m : List Ent) (ss : List Stp) : List Ent := ss.foldl oneE m
def runE (l : List Ent) (ss : List Stp) : List Ent := playE (tidyE l) ss

def sameE (a b : List Ent) : Bool := decide (a = b)

def pairsE (l : List Ent) : List (Bs × Bs) := l.flatMap fun e => e.2.map fun v => (e.1, v)

def knownE (s : Stp) : Bool := decide (1 ≤ s.kind) && decide (s.kind ≤ 3)

/-- a later Set or Del of the key -/
def laterE (k : Bs) (l : List Stp) : Bool := l.any fun s => s.key == k && (s.kind == 2 || s.kind == 3)

def shortE : List Stp → List Stp
  | [] => []
  | s :: r => if laterE s.key r then shortE r else s :: shortE r

def aboutE (l : List Stp) (k : Bs) : List Stp := l.filter fun s => s.key == k

def apartE (a b : List Stp) : Bool := a.all fun s => (aboutE b s.key).isEmpty

/-- two scripts woven, step by step, as the turns say -/
def wovF : Nat → List Stp → List Stp → List Bool → List Stp
  | 0, _, _, _ => []
  | _ + 1, [], [], _ => []
  | f + 1, [], y :: b, t => y :: wovF f [] b t.tail
  | f + 1, x :: a, [], t => x :: wovF f a [] t.tail
  | f + 1, x :: a, y :: b, t => if t.headD false then y :: wovF f (x :: a) b t.tail else x :: wovF f a (y :: b) t.tail
def wovenE (a b : List Stp) (t : List Bool) : List Stp := wovF (a.length + b.length) a b t

def addsE (l : List (Bs × Bs)) : List Stp := l.map fun p => ⟨1, p.1, p.2⟩

def decidedE (l : List Stp) : Bool := l.all fun s => match aboutE l s.key with
  | [] => true
  | t :: _ => !(t.kind == 1)

/-- is the byte written as it is? -/
def plainB (c : UInt8) : Bool :=
  (48 ≤ c && c ≤ 57) || (65 ≤ c && c ≤ 90) || (97 ≤ c && c ≤ 122) || c == 45 || c == 46 || c == 95 || c == 126

def hexB (c : UInt8) : UInt8 := if c < 10 then 48 + c else 55 + c

def escB (c : UInt8) : Bs := if c == 32 then [43] else if plainB c then [c] else [37, hexB (c >>> 4), hexB (c &&& 15)]

def escE (s : Bs) : Bs := s.flatMap escB

def partE (p : Bs × Bs) : Bs := escE p.1 ++ 61 :: escE p.2

/-- parts with ampersands between -/
def joinE : List Bs → Bs
  | [] => []
  | [x] => x
  | x :: y :: r => x ++ 38 :: joinE (y :: r)

def encE (m : List Ent) : Bs := joinE ((pairsE m).map partE)

end Go.Proofs.YtjgjiaflccdflaaDoor
