/- Places of the automaton of positions, their steps, and the sets of places that can come: plain definitions. -/
import Init
set_option linter.unusedVariables false
set_option linter.unusedSimpArgs false
namespace Go.Proofs.Eng
/-- A place of the automaton of positions. -/
structure NS where
  o : Nat
  d : Nat
  t : Bool
deriving DecidableEq, Inhabited
def nsLt (x y : NS) : Bool := if x.o = y.o then (if x.d = y.d then (!x.t && y.t) else decide (x.d < y.d)) else decide (x.o < y.o)
/-- One place makes another one needless. -/
def implyB (s o : NS) : Bool :=
  if s.t || !o.t then decide (s.d + (if s.o < o.o then o.o - s.o else s.o - o.o) ≤ o.d) else decide (s.d + (if s.o < o.o then o.o - s.o else s.o - o.o) < o.d)
/-- A bit of a number. -/
def bitN (x i : Nat) : Bool := decide (x / 2 ^ i % 2 = 1)
/-- A place is added to others. -/
def addSt (l : List NS) (x : NS) : List NS := if l.any (fun s => implyB s x) = true then l else l.filter (fun s => !implyB x s) ++ [x]
/-- Places behind some of the query's letters, which are left out. -/
def delT (s : NS) (x : Nat) : Nat → Nat → List NS → List NS
  | 0, _, l => l
  | k + 1, d, l => delT s x k (d + 1) (if bitN x d = true then addSt l ⟨s.o + 1 + d, s.d + d, false⟩ else l)
def simp1 (md : Nat) (dam : Bool) (s : NS) (x : Nat) (l : List NS) : List NS :=
  if s.d < md then
    (if (dam && bitN x 1) = true then addSt (delT s x (md - s.d) 1 (addSt (addSt l ⟨s.o, s.d + 1, false⟩) ⟨s.o + 1, s.d + 1, false⟩)) ⟨s.o, s.d + 1, true⟩
     else delT s x (md - s.d) 1 (addSt (addSt l ⟨s.o, s.d + 1, false⟩) ⟨s.o + 1, s.d + 1, false⟩))
  else l
def simp2 (s : NS) (x : Nat) (l : List NS) : List NS := if bitN x 0 = true then addSt l ⟨s.o + 1, s.d, false⟩ else l
def simp3 (s : NS) (x : Nat) (l : List NS) : List NS := if (s.t && bitN x 0) = true then addSt l ⟨s.o + 2, s.d, false⟩ else l
/-- What a place makes behind a letter. -/
def simpT (md : Nat) (dam : Bool) (s : NS) (x : Nat) (l : List NS) : List NS := simp3 s x (simp2 s x (simp1 md dam s x l))
/-- The part of a vector that a place sees. -/
def cvN (md scv o : Nat) : Nat := scv / 2 ^ o % 2 ^ (2 * md + 1)
def transF (md : Nat) (dam : Bool) (scv : Nat) (l : List NS) : List NS := l.foldl (fun acc s => simpT md dam s (cvN md scv s.o) acc) []
/-! ### In order -/
def nsPut (x : NS) : List NS → List NS
  | [] => [x]
  | y :: l => if nsLt y x then y :: nsPut x l else x :: y :: l
def nsIns : List NS → List NS
  | [] => []
  | x :: l => nsPut x (nsIns l)
def minO : List NS → Nat
  | [] => 4294967295
  | s :: l => if s.o < minO l then s.o else minO l
/-- How far places are moved back. -/
def shiftO (l : List NS) : Nat := if minO l = 4294967295 then 0 else minO l
def moveB (l : List NS) : List NS := l.map fun s => ⟨s.o - shiftO l, s.d, s.t⟩
/-- The set of places behind a letter, moved to the query's beginning. -/
def destI (md : Nat) (dam : Bool) (chi : Nat) (l : List NS) : List NS := nsIns (moveB (nsIns (transF md dam chi l)))
def decN (n : Nat) : NS := ⟨n / 6, n / 2 % 3, n % 2 == 1⟩
def inC (C : List (List NS)) (l : List NS) : Bool := C.any fun x => decide (x = l)
def closedC (md : Nat) (dam : Bool) (C : List (List NS)) : Bool := C.all fun l => (List.range (2 ^ (2 * md + 1))).all fun chi => inC C (destI md dam chi l)
/-- The sets of places that can come. -/
def codeC : Nat → Bool → List (List Nat)
  | 0, false => [[], [0]]
  | 0, true => [[], [0]]
  | 1, false => [[], [0], [2, 8], [2, 8, 14], [2], [2, 14]]
  | 1, true => [[], [0], [2, 8], [3, 8, 14], [3, 6], [2], [2, 8, 14], [2, 14]]
  | 2, false => [[], [0], [2, 8], [2, 8, 14], [2, 8, 22], [4, 10, 16], [2], [4, 14], [4, 10, 16, 22], [2, 16], [4, 10, 20], [2, 14], [4, 14, 20], [4, 10, 16, 22, 28], [2, 16, 22], [4, 14, 28], [4, 10, 16, 28], [2, 22], [4], [4, 10], [4, 16], [4, 22], [4, 10, 22], [4, 16, 22], [4, 20], [4, 16, 22, 28], [4, 28], [4, 10, 28], [4, 16, 28], [4, 22, 28], [4, 10, 22, 28]]
  | 2, true => [[], [0], [2, 8], [3, 8, 14], [3, 6], [2, 8, 22], [4, 10, 16], [2], [5, 14], [5, 8, 14], [4, 11, 16, 22], [2, 16], [5, 11, 14], [4, 10, 16, 22], [4, 11, 20], [2, 8, 14], [5, 11, 14, 20], [5, 8, 14, 20], [4, 10, 17, 22, 28], [5, 14, 28], [5, 8, 14, 28], [4, 11, 17, 20], [5, 12], [4, 10, 16, 28], [2, 22], [4, 11, 16, 22, 28], [2, 16, 22], [5, 11, 14, 28], [4], [4, 10], [4, 16], [5, 10, 16], [5, 8], [4, 14], [4, 11, 14], [4, 22], [4, 16, 22], [4, 10, 22], [5, 10, 16, 22], [5, 8, 22], [4, 20], [4, 10, 20], [4, 17, 22, 28], [4, 17, 20], [4, 10, 17, 20], [2, 14], [2, 11, 16, 22], [2, 11, 14], [4, 11, 14, 20], [4, 14, 28], [4, 28], [4, 10, 28], [4, 16, 22, 28], [4, 10, 16, 22, 28], [4, 22, 28], [4, 10, 22, 28], [4, 11, 14, 28], [4, 16, 28], [5, 10, 16, 28], [5, 8, 28], [5, 10, 16, 22, 28], [5, 8, 22, 28], [5, 10, 20], [5, 8, 20], [5, 10, 17, 22, 28], [5, 8, 17, 22, 28], [5, 10, 17, 20], [5, 8, 17, 20]]
  | _, _ => []
def setC (md : Nat) (dam : Bool) : List (List NS) := (codeC md dam).map fun l => l.map decN
theorem closed0f : closedC 0 false (setC 0 false) = true := by decide +kernel
theorem closed0t : closedC 0 true (setC 0 true) = true := by decide +kernel
theorem closed1f : closedC 1 false (setC 1 false) = true := by decide +kernel
theorem closed1t : closedC 1 true (setC 1 true) = true := by decide +kernel
theorem closed2f : closedC 2 false (setC 2 false) = true := by decide +kernel
theorem closed2t : closedC 2 true (setC 2 true) = true := by decide +kernel
end Go.Proofs.Eng
