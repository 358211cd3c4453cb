/- Walks and plain laws joined (Tx). Conditions: stand in each law. -/

set_option linter.unusedVariables false
set_option linter.unusedSimpArgs false
section
/- Plain functions on lists of bytes: what the text reader does, step by step, and the texts of shapes. Conditions: none; no program is named here. -/
set_option linter.unusedVariables false
set_option linter.unusedSimpArgs false
namespace Go.Proofs.YtghajgdiaopioaaGreatDoor.Tx

abbrev Bs := List UInt8
abbrev Pt := Nat × Nat

/-- Not known, an error, or an answer. -/
inductive Rd (α : Type) where
  | unk
  | err
  | ok (a : α)

def Rd.bind {α β : Type} : Rd α → (α → Rd β) → Rd β
  | .unk, _ => .unk
  | .err, _ => .err
  | .ok a, f => f a

def Rd.map {α β : Type} (f : α → β) : Rd α → Rd β
  | .unk => .unk
  | .err => .err
  | .ok a => .ok (f a)

/-- A row of them, the first error first. -/
def mapR {α β : Type} (f : α → Rd β) : List α → Rd (List β)
  | [] => .ok []
  | a :: l => (f a).bind fun b => (mapR f l).map (b :: ·)

def isSp (c : UInt8) : Bool := c == 32 || c == 9 || c == 10
/-- The class of the two patterns. -/
def isCl (c : UInt8) : Bool := c == 32 || c == 9 || c == 10 || c == 12 || c == 13 || c == 124
def up (c : UInt8) : UInt8 := if 97 ≤ c ∧ c ≤ 122 then c - 32 else c

def trimL (l : Bs) : Bs := l.dropWhile isSp
def trimR (l : Bs) : Bs := (l.reverse.dropWhile isSp).reverse
def trim2 (l : Bs) : Bs := trimR (trimL l)
/-- trimSpace: a text of one sign that is no blank is lost, too. -/
def trim (l : Bs) : Bs := if (trim2 l).length ≤ 1 then [] else trim2 l

/-- trimSpaceBrackets. -/
def trimBr (l : Bs) : Option Bs :=
  match trim l with
  | [] => some []
  | c :: m => if c = 40 then (if m.getLast? = some 41 then some (trim m.dropLast) else none) else none

/-- cut at the first blank. -/
def cutSp : Bs → Option (Bs × Bs)
  | [] => none
  | c :: r => if c = 32 then some ([], r) else (cutSp r).map fun x => (c :: x.1, x.2)

/-- splitOnComma: cur the piece so far, pend the blanks and commas behind it, sc whether a comma is among them. -/
def goC (cur pend : Bs) (sc : Bool) : Bs → List Bs
  | [] => [cur ++ pend]
  | c :: r =>
    if c = 44 then goC cur (pend ++ [c]) true r
    else if isSp c then goC cur (pend ++ [c]) sc r
    else if sc then cur :: goC [c] [] false r
    else goC (cur ++ pend ++ [c]) [] false r
def splitC (l : Bs) : List Bs := goC [] [] false l

/-- overClass: how many signs of the class stand ahead. -/
def over (l : Bs) : Nat := (l.takeWhile isCl).length
/-- Is the sign at place k this one? -/
def atIs (l : Bs) (k : Nat) (c : UInt8) : Bool := l[k]? == some c

/-- matchParens at the head of l: where what stands between the inner brackets begins and ends, and where the match ends. -/
def mP (double : Bool) (l : Bs) : Option (Nat × Nat × Nat) :=
  if atIs l 0 41 then
    let b := if double then 1 + over (l.drop 1) else 0
    if atIs l b 41 then
      let f := b + 1
      let k := f + over (l.drop f)
      if atIs l k 44 then
        let t := k + 1 + over (l.drop (k + 1))
        if atIs l t 40 then
          if double then
            let e := t + 1 + over (l.drop (t + 1))
            if atIs l e 40 then some (f, t, e + 1) else none
          else some (f, t, t + 1)
        else none
      else none
    else none
  else none

/-- The pieces between the matches. -/
def goP (double : Bool) : Nat → Bs → Bs → List Bs
  | 0, cur, l => [cur ++ l]
  | n + 1, cur, l =>
    match l with
    | [] => [cur]
    | c :: r =>
      match mP double (c :: r) with
      | some (f, t, e) => (cur ++ (c :: r).take f) :: goP double n (((c :: r).take e).drop t) ((c :: r).drop e)
      | none => goP double n (cur ++ [c]) r
def splitP (double : Bool) (l : Bs) : List Bs := goP double l.length [] l

/-- splitGeometryCollection behind the brackets. -/
def goG (cur : Bs) (d : Int) : Bs → List Bs
  | [] => [trim cur]
  | c :: r =>
    if c = 40 then goG (cur ++ [c]) (d + 1) r
    else if c = 41 then goG (cur ++ [c]) (d - 1) r
    else if c = 44 then (if d = 0 then trim cur :: goG [] 0 r else goG (cur ++ [c]) d r)
    else goG (cur ++ [c]) d r
def splitG (l : Bs) : List Bs := goG [] 0 l

inductive Geo where
  | point (p : Pt)
  | line (ps : List Pt)
  | poly (rs : List (List Pt))
  | mpoint (ps : List Pt)
  | mline (ls : List (List Pt))
  | mpoly (ps : List (List (List Pt)))
  | coll (gs : List Geo)

/-- The words of the kinds, with great letters. -/
def word : Nat → Bs
  | 1 => [80, 79, 73, 78, 84]
  | 2 => [76, 73, 78, 69, 83, 84, 82, 73, 78, 71]
  | 3 => [80, 79, 76, 89, 71, 79, 78]
  | 4 => [77, 85, 76, 84, 73, 80, 79, 73, 78, 84]
  | 5 => [77, 85, 76, 84, 73, 76, 73, 78, 69, 83, 84, 82, 73, 78, 71]
  | 6 => [77, 85, 76, 84, 73, 80, 79, 76, 89, 71, 79, 78]
  | 7 => [71, 69, 79, 77, 69, 84, 82, 89, 67, 79, 76, 76, 69, 67, 84, 73, 79, 78]
  | _ => []
def emptyW : Bs := [32, 69, 77, 80, 84, 89]

/-- Does the text begin with the word, in whatever letters? -/
def hasW (s : Bs) (w : Bs) : Bool := (s.take w.length).map up == w
/-- The same text, in whatever letters (of texts of ASCII). -/
def eqF (a b : Bs) : Bool := a.map up == b.map up

section
variable (pf : Bs → Rd Nat)

def parseP (l : Bs) : Rd Pt :=
  match cutSp l with
  | none => .err
  | some (a, b) => (pf a).bind fun x => (pf b).bind fun y => .ok (x, y)

def inBr {α : Type} (f : Bs → Rd α) (l : Bs) : Rd α :=
  match trimBr l with
  | none => .err
  | some t => f t

def readPts (t : Bs) : Rd (List Pt) := mapR (parseP pf) (splitC t)
def readRings (t : Bs) : Rd (List (List Pt)) := mapR (inBr (readPts pf)) (splitP false t)
def readPolys (t : Bs) : Rd (List (List (List Pt))) := mapR (inBr (readRings pf)) (splitP true t)
def readMP (t : Bs) : Rd (List Pt) := mapR (inBr (parseP pf)) (splitC t)

/-- unmarshalX of a text that begins with X's word; 'sub' reads a member. -/
def um (sub : Bs → Rd Geo) (k : Nat) (s : Bs) : Rd Geo :=
  match k with
  | 1 => (inBr (parseP pf) (s.drop 5)).map .point
  | 2 => if eqF s (word 2 ++ emptyW) then .ok (.line []) else (inBr (readPts pf) (s.drop 10)).map .line
  | 3 => if eqF s (word 3 ++ emptyW) then .ok (.poly []) else (inBr (readRings pf) (s.drop 7)).map .poly
  | 4 => if eqF s (word 4 ++ emptyW) then .ok (.mpoint []) else (inBr (readMP pf) (s.drop 10)).map .mpoint
  | 5 => if eqF s (word 5 ++ emptyW) then .ok (.mline []) else (inBr (readRings pf) (s.drop 15)).map .mline
  | 6 => if eqF s (word 6 ++ emptyW) then .ok (.mpoly []) else (inBr (readPolys pf) (s.drop 12)).map .mpoly
  | 7 => if eqF s (word 7 ++ emptyW) then .ok (.coll []) else if s.length = 18 then .err else (inBr (fun t => mapR sub (splitG t)) (s.drop 18)).map .coll
  | _ => .err

/-- The kind whose word a text begins with; 0 for none. -/
def kindOf (s : Bs) : Nat :=
  if hasW s (word 1) then 1 else if hasW s (word 2) then 2 else if hasW s (word 3) then 3 else if hasW s (word 4) then 4
  else if hasW s (word 5) then 5 else if hasW s (word 6) then 6 else if hasW s (word 7) then 7 else 0

/-- Unmarshal; n bounds the depth. -/
def readG : Nat → Bs → Rd Geo
  | 0, _ => .unk
  | n + 1, s => um pf (readG n) (kindOf (trim s)) (trim s)

end

/-! ### The texts -/
def joinS (sep : Bs) : List Bs → Bs
  | [] => []
  | [a] => a
  | a :: b :: l => a ++ sep ++ joinS sep (b :: l)
def br (l : Bs) : Bs := 40 :: l ++ [41]

section
variable (nf : Nat → Bs) (sp : Bs)
def ptT (p : Pt) : Bs := nf p.1 ++ 32 :: nf p.2
def ptsT (ps : List Pt) : Bs := br (joinS (44 :: sp) (ps.map (ptT nf)))
def ringsT (rs : List (List Pt)) : Bs := br (joinS (44 :: sp) (rs.map (ptsT nf sp)))
def low (small : Bool) (l : Bs) : Bs := if small then l.map (fun c => if 65 ≤ c ∧ c ≤ 90 then c + 32 else c) else l
/-- The text of a shape in whose lists something is. -/
def text (small : Bool) : Geo → Bs
  | .point p => low small (word 1) ++ sp ++ br (ptT nf p)
  | .line ps => low small (word 2) ++ sp ++ ptsT nf sp ps
  | .poly rs => low small (word 3) ++ sp ++ ringsT nf sp rs
  | .mpoint ps => low small (word 4) ++ sp ++ br (joinS (44 :: sp) (ps.map fun p => br (ptT nf p)))
  | .mline ls => low small (word 5) ++ sp ++ ringsT nf sp ls
  | .mpoly qs => low small (word 6) ++ sp ++ br (joinS (44 :: sp) (qs.map (ringsT nf sp)))
  | .coll gs => low small (word 7) ++ sp ++ br (joinS (44 :: sp) (texts gs))
where texts : List Geo → List Bs
  | [] => []
  | g :: l => text small g :: texts l
end

def Geo.kind : Geo → Nat
  | .point _ => 1 | .line _ => 2 | .poly _ => 3 | .mpoint _ => 4 | .mline _ => 5 | .mpoly _ => 6 | .coll _ => 7

/-- No list in it is empty. -/
inductive Full : Geo → Prop where
  | point (p) : Full (.point p)
  | line {ps} : ps ≠ [] → Full (.line ps)
  | poly {rs} : rs ≠ [] → (∀ r ∈ rs, r ≠ []) → Full (.poly rs)
  | mpoint {ps} : ps ≠ [] → Full (.mpoint ps)
  | mline {ls} : ls ≠ [] → (∀ r ∈ ls, r ≠ []) → Full (.mline ls)
  | mpoly {qs} : qs ≠ [] → (∀ q ∈ qs, q ≠ [] ∧ ∀ r ∈ q, r ≠ []) → Full (.mpoly qs)
  | coll {gs} : gs ≠ [] → (∀ g ∈ gs, Full g) → Full (.coll gs)

/-- How deep it is. -/
def Geo.deep : Geo → Nat
  | .coll gs => deeps gs + 1
  | _ => 1
where deeps : List Geo → Nat
  | [] => 0
  | g :: l => max g.deep (deeps l)

/-- All coordinates of a shape. -/
inductive AllC (q : Nat → Prop) : Geo → Prop where
  | point {p : Pt} : q p.1 ∧ q p.2 → AllC q (.point p)
  | line {ps : List Pt} : (∀ p ∈ ps, q p.1 ∧ q p.2) → AllC q (.line ps)
  | poly {rs : List (List Pt)} : (∀ r ∈ rs, ∀ p ∈ r, q p.1 ∧ q p.2) → AllC q (.poly rs)
  | mpoint {ps : List Pt} : (∀ p ∈ ps, q p.1 ∧ q p.2) → AllC q (.mpoint ps)
  | mline {ls : List (List Pt)} : (∀ r ∈ ls, ∀ p ∈ r, q p.1 ∧ q p.2) → AllC q (.mline ls)
  | mpoly {qs : List (List (List Pt))} : (∀ s ∈ qs, ∀ r ∈ s, ∀ p ∈ r, q p.1 ∧ q p.2) → AllC q (.mpoly qs)
  | coll {gs : List Geo} : (∀ g ∈ gs, AllC q g) → AllC q (.coll gs)

end Go.Proofs.YtghajgdiaopioaaGreatDoor.Tx
end
