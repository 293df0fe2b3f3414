import Derived.Laws.Bits64b
namespace Go.Proofs.YbulkcgjqFmt

/-- A face under its key: the two corners in ascending order, the element, the face's number. -/
structure En where
  k0 : Nat
  k1 : Nat
  e : Nat
  f : Nat
def En.z : En := ⟨0, 0, 0, 0⟩
def enOf (cn : Nat → Nat → Nat) (e f : Nat) : En := ⟨min (cn e f) (cn e ((f + 1) % 4)), max (cn e f) (cn e ((f + 1) % 4)), e, f⟩
def unL (cn : Nat → Nat → Nat) (n : Nat) : List En := (List.range n).map fun i => enOf cn (i / 4) (i % 4)

namespace Plain
/-- The grid's corners. -/
def cnG (nx e c : Nat) : Nat := if c = 0 then e / nx * (nx + 1) + e % nx else if c = 1 then e / nx * (nx + 1) + e % nx + 1 else if c = 2 then e / nx * (nx + 1) + e % nx + 1 + (nx + 1) else e / nx * (nx + 1) + e % nx + (nx + 1)

def cntS (next : List Nat) (x : En) : Option (List Nat) := if x.k0 + 1 < next.length then some (next.set (x.k0 + 1) (next.getD (x.k0 + 1) 0 + 1)) else none
def cnt (next : List Nat) : List En → Option (List Nat)
  | [] => some next
  | x :: l => (cntS next x).bind fun n => cnt n l
/-- Running sums from place n on, k places. -/
def sums (next : List Nat) (n : Nat) : Nat → List Nat
  | 0 => next
  | k + 1 => sums (next.set n (next.getD n 0 + next.getD (n - 1) 0)) (n + 1) k
def putS (s : List Nat × List (Option En)) (x : En) : Option (List Nat × List (Option En)) :=
  if x.k0 < s.1.length ∧ s.1.getD x.k0 0 < s.2.length then some (s.1.set x.k0 (s.1.getD x.k0 0 + 1), s.2.set (s.1.getD x.k0 0) (some x)) else none
def puts (s : List Nat × List (Option En)) : List En → Option (List Nat × List (Option En))
  | [] => some s
  | x :: l => (putS s x).bind fun n => puts n l
def alls : List (Option En) → Option (List En)
  | [] => some []
  | none :: _ => none
  | some x :: l => (alls l).bind fun r => some (x :: r)
def cmpL (x y : En) : Bool := decide (x.k0 < y.k0) || (x.k0 == y.k0 && (decide (x.k1 < y.k1) || (x.k1 == y.k1 && (decide (x.e < y.e) || (x.e == y.e && decide (x.f < y.f))))))
def ins (x : En) : List En → List En
  | [] => [x]
  | y :: l => if cmpL y x then y :: ins x l else x :: y :: l
def isort : List En → List En
  | [] => []
  | x :: l => ins x (isort l)
/-- The buckets sorted, one after the other. -/
def buckets (start : Nat) (A : List En) : List Nat → Option (List En)
  | [] => some A
  | e :: l => if start ≤ e ∧ e ≤ A.length ∧ e - start ≤ 12 then buckets e (A.take start ++ isort ((A.drop start).take (e - start)) ++ A.drop e) l else none

abbrev Side := Int × Int × Nat
structure St where
  sides : List Side
  inn : Nat
  bnd : Nat
/-- The runs of the sorted faces. -/
def runsF (cn : Nat → Nat → Nat) : Nat → List En → St → Option St
  | _, [], s => some s
  | 0, _ :: _, _ => none
  | n + 1, [x], s => if 4 * x.e + x.f < s.sides.length then runsF cn n [] { s with sides := s.sides.set (4 * x.e + x.f) (-1, -1, 0), bnd := s.bnd + 1 } else none
  | n + 1, x :: y :: l, s =>
    if x.k0 = y.k0 ∧ x.k1 = y.k1 then
      (match l with
       | [] => some ()
       | z :: _ => if x.k0 = z.k0 ∧ x.k1 = z.k1 then none else some ()).bind fun _ =>
      if 4 * x.e + x.f < s.sides.length ∧ 4 * y.e + y.f < s.sides.length ∧ x.f < 4 ∧ y.f < 4 ∧ cn x.e x.f = cn y.e ((y.f + 1) % 4) ∧ cn x.e ((x.f + 1) % 4) = cn y.e y.f ∧ cn x.e x.f ≠ cn y.e y.f then
        runsF cn n l { sides := (s.sides.set (4 * x.e + x.f) ((y.e : Int), (y.f : Int), 1)).set (4 * y.e + y.f) ((x.e : Int), (x.f : Int), 1), inn := s.inn + 1, bnd := s.bnd }
      else none
    else if 4 * x.e + x.f < s.sides.length then runsF cn n (y :: l) { s with sides := s.sides.set (4 * x.e + x.f) (-1, -1, 0), bnd := s.bnd + 1 } else none

def expS (i j f nx ny : Nat) : Side :=
  if f = 0 ∧ 0 < j then (((j - 1) * nx + i : Nat), 2, 1)
  else if f = 1 ∧ i + 1 < nx then ((j * nx + i + 1 : Nat), 3, 1)
  else if f = 2 ∧ j + 1 < ny then (((j + 1) * nx + i : Nat), 0, 1)
  else if f = 3 ∧ 0 < i then ((j * nx + i - 1 : Nat), 1, 1)
  else (-1, -1, 0)

def sorted (nx ny : Nat) : Option (List En) :=
  (cnt (List.replicate ((nx + 1) * (ny + 1) + 1) 0) (unL (cnG nx) (4 * (nx * ny)))).bind fun c =>
  (puts (sums c 1 ((nx + 1) * (ny + 1)), List.replicate (4 * (nx * ny)) none) (unL (cnG nx) (4 * (nx * ny)))).bind fun p =>
  (alls p.2).bind fun A =>
  buckets 0 A (p.1.take ((nx + 1) * (ny + 1)))
def whole (nx ny : Nat) : Bool :=
  match sorted nx ny with
  | none => false
  | some E => match runsF (cnG nx) 300 E ⟨List.replicate (4 * (nx * ny)) (0, 0, 0), 0, 0⟩ with
    | none => false
    | some s => (List.range (4 * (nx * ny))).all (fun k => s.sides.getD k (0, 0, 0) == expS (k / 4 % nx) (k / 4 / nx) (k % 4) nx ny) && s.inn == (nx - 1) * ny + nx * (ny - 1) && s.bnd == 2 * nx + 2 * ny && E.length == 4 * (nx * ny) && E.all (fun x => decide (x.e < nx * ny) && decide (x.f < 4))
end Plain
end Go.Proofs.YbulkcgjqFmt
