/-
  FnLayout (the statement: for every list of pieces, every time and every zone the call returns true, and its arguments read afterwards as they did), part 1 of 41. In this part: The plain words of the claim: pieces, zones, times, and what is told of them, as lists of bytes and numbers. No Go here.
-/
/- The plain words of the claim: pieces, zones, times, and what is told of them, as lists of bytes and numbers. No Go here. -/
namespace Go.Proofs.YtndhiemagankeaaGreatDoor
abbrev Bytes := List UInt8
/-- A piece of a layout. -/
structure Pc where
  kind : Int
  text : Bytes
  n : Int
  comma : Bool
/-- A zone. -/
structure Zn where
  name : Bytes
  off : Int
/-- A time as it is told. -/
structure Civ where
  year : Int
  month : Int
  day : Int
  hour : Int
  minute : Int
  second : Int
  nano : Int
  zone : Zn

def utcB : Bytes := [85, 84, 67]
def gmtB : Bytes := [71, 77, 84]
def within (n lo hi : Int) : Bool := decide (lo ≤ n) && decide (n ≤ hi)
def isSecond (k : Int) : Bool := k == 19 || k == 20
def isFraction (k : Int) : Bool := k == 33 || k == 34
def isZone (k : Int) : Bool := within k 22 31
def isISO (k : Int) : Bool := within k 27 31
def leap (y : Int) : Bool := (y % 4 == 0 && y % 100 != 0) || y % 400 == 0
def days (y m : Int) : Int := if m = 2 then (if leap y = true then 29 else 28) else if m = 4 ∨ m = 6 ∨ m = 9 ∨ m = 11 then 30 else 31
def dateOk (y m d : Int) : Bool := within y 0 9999 && (within m 1 12 && within d 1 (days y m))
def zoneOk (z : Zn) : Bool := !z.name.isEmpty && (decide (z.name.length ≤ 100) && (within z.off (-86399) 86399 && ((z.off == 0 || (decide (z.off ≤ -60) || decide (60 ≤ z.off))) && (!(z.name == utcB) || z.off == 0))))
def upperB (c : UInt8) : Bool := decide (65 ≤ c.toNat) && decide (c.toNat ≤ 90)
def abbreviated (z : Zn) : Bool := z.name.all upperB && (zoneOk z && (z.name.length == 3 && !(z.name == gmtB)))
def civilOk (c : Civ) : Bool := dateOk c.year c.month c.day && (within c.hour 0 23 && (within c.minute 0 59 && (within c.second 0 59 && (within c.nano 0 999999999 && zoneOk c.zone))))

/-- A sign of a plain text that may stand first. -/
def signB (c : UInt8) : Bool := c == 32 || ((decide (33 ≤ c.toNat) && decide (c.toNat ≤ 43)) || (c == 45 || (c == 47 || ((decide (58 ≤ c.toNat) && decide (c.toNat ≤ 64)) || ((decide (91 ≤ c.toNat) && decide (c.toNat ≤ 94)) || (decide (123 ≤ c.toNat) && decide (c.toNat ≤ 126)))))))
def letterB (c : UInt8) : Bool := (decide (65 ≤ c.toNat) && decide (c.toNat ≤ 73)) || (c == 84 || (c == 87 || c == 88))
def plain (s : Bytes) : Bool :=
  (match s with
    | [] => true
    | c :: r => signB c && r.all fun x => signB x || letterB x) && decide (s.length ≤ 1000)
def pieceOk (p : Pc) : Bool :=
  if p.kind = 0 then !p.text.isEmpty && (plain p.text && (p.n == 0 && !p.comma))
  else if isFraction p.kind = true then p.text.isEmpty && within p.n 1 9
  else within p.kind 1 34 && (p.text.isEmpty && (p.n == 0 && !p.comma))
def touch (a b : Int) : Bool :=
  if isFraction b = true then isSecond a
  else if b = 21 then within a 15 20 || isFraction a
  else if isISO b = true then a == 18 || (a == 20 || isFraction a)
  else false
/-- Whether a piece may stand behind the one ahead of it. -/
def linkOk (a b : Pc) : Bool :=
  !(b.kind == 0 && (isZone a.kind && b.text.head? == some 58)) &&
  !(!(b.kind == 0) && ((!(a.kind == 0) || isFraction b.kind) && !touch a.kind b.kind))
def chainOk : List Pc → Bool
  | [] => true
  | a :: r => (match r with
      | [] => true
      | b :: _ => linkOk a b) && chainOk r
def fracs (ps : List Pc) : Nat := (ps.filter fun p => isFraction p.kind).length
def piecesOk (ps : List Pc) : Bool :=
  ps.all pieceOk && (chainOk ps && ((match ps with
    | [] => true
    | p :: _ => !isFraction p.kind) && (decide (ps.length ≤ 100) && decide (fracs ps ≤ 1))))
def hasK (ps : List Pc) (k : Int) : Bool := ps.any fun p => p.kind == k
def anyK (ps : List Pc) (lo hi : Int) : Bool := ps.any fun p => within p.kind lo hi
def fitsP (off : Int) (p : Pc) : Bool :=
  if p.kind = 24 ∨ p.kind = 29 then off.tmod 3600 == 0 else if p.kind = 22 ∨ p.kind = 23 ∨ p.kind = 27 ∨ p.kind = 28 then off.tmod 60 == 0 else true
def fits (ps : List Pc) (c : Civ) : Bool := ps.all (fitsP c.zone.off)

def monthNames : List Bytes := [[74, 97, 110, 117, 97, 114, 121], [70, 101, 98, 114, 117, 97, 114, 121], [77, 97, 114, 99, 104], [65, 112, 114, 105, 108], [77, 97, 121], [74, 117, 110, 101], [74, 117, 108, 121], [65, 117, 103, 117, 115, 116], [83, 101, 112, 116, 101, 109, 98, 101, 114], [79, 99, 116, 111, 98, 101, 114], [78, 111, 118, 101, 109, 98, 101, 114], [68, 101, 99, 101, 109, 98, 101, 114]]
def dayNames : List Bytes := [[83, 117, 110, 100, 97, 121], [77, 111, 110, 100, 97, 121], [84, 117, 101, 115, 100, 97, 121], [87, 101, 100, 110, 101, 115, 100, 97, 121], [84, 104, 117, 114, 115, 100, 97, 121], [70, 114, 105, 100, 97, 121], [83, 97, 116, 117, 114, 100, 97, 121]]
def monthName (m : Int) : Bytes := monthNames.getD (m - 1).toNat []
def dayName (d : Int) : Bytes := dayNames.getD d.toNat []
/-- The digit of a number below ten. -/
def digB (n : Int) : UInt8 := UInt8.ofNat (48 + n).toNat
/-- The digits of a natural number. -/
def decN (n : Nat) : Bytes := if _h : n < 10 then [digB n] else decN (n / 10) ++ [digB (n % 10 : Nat)]
termination_by n
decreasing_by omega
def dec (n : Int) : Bytes := decN n.toNat
def padB (c : UInt8) (w : Nat) (l : Bytes) : Bytes := List.replicate (w - l.length) c ++ l
def digits (n : Int) (w : Nat) : Bytes := padB 48 w (dec n)
def blank (n : Int) (w : Nat) : Bytes := padB 32 w (dec n)
def yearDay (y m d : Int) : Int := d + ((List.range (m - 1).toNat).map fun (k : Nat) => days y ((k : Int) + 1)).sum
def weekday (y m d : Int) : Int := (365 * y + (y + 3) / 4 - (y + 99) / 100 + (y + 399) / 400 + yearDay y m d - 1 + 6) % 7
def hour12 (h : Int) : Int := if h % 12 = 0 then 12 else h % 12
def halfB (h : Int) : Bytes := if 12 ≤ h then [80, 77] else [65, 77]
def power (n : Nat) : Int := 10 ^ n
def cut (nano : Int) (d : Nat) : Int := nano / power (9 - d) * power (9 - d)
def mark (comma : Bool) : Bytes := if comma = true then [44] else [46]
def fraction (nano : Int) (d : Nat) (comma : Bool) : Bytes := mark comma ++ digits (nano / power (9 - d)) d
/-- A fraction's digits without the zeros at its end. -/
def trimD : Nat → Int → Nat × Int
  | 0, n => (0, n)
  | d + 1, n => if n % 10 = 0 then trimD d (n / 10) else (d + 1, n)
def trimmed (nano : Int) (d : Nat) (comma : Bool) : Bytes :=
  let r := trimD d (nano / power (9 - d))
  if r.1 = 0 then [] else mark comma ++ digits r.2 r.1
def offsetText (off : Int) (minutes seconds colon : Bool) : Bytes :=
  let a : Int := if off < 0 then -off else off
  let sep : Bytes := if colon = true then [58] else []
  (if off < 0 then [45] else [43]) ++ digits (a / 3600) 2 ++ (if minutes = true then sep ++ digits (a / 60 % 60) 2 else []) ++ (if seconds = true then sep ++ digits (a % 60) 2 else [])
def zoneText (k off : Int) : Bytes :=
  if k = 22 ∨ k = 27 then offsetText off true false false
  else if k = 23 ∨ k = 28 then offsetText off true false true
  else if k = 24 ∨ k = 29 then offsetText off false false false
  else if k = 25 ∨ k = 30 then offsetText off true true false
  else offsetText off true true true

/-- The text of an element in a layout, by its kind. -/
def elemTexts : List Bytes := [[], [50, 48, 48, 54], [48, 54], [74, 97, 110, 117, 97, 114, 121], [74, 97, 110], [48, 49], [49], [77, 111, 110, 100, 97, 121], [77, 111, 110], [50], [95, 50], [48, 50], [95, 95, 50], [48, 48, 50], [49, 53], [51], [48, 51], [52], [48, 52], [53], [48, 53], [80, 77], [45, 48, 55, 48, 48], [45, 48, 55, 58, 48, 48], [45, 48, 55], [45, 48, 55, 48, 48, 48, 48], [45, 48, 55, 58, 48, 48, 58, 48, 48], [90, 48, 55, 48, 48], [90, 48, 55, 58, 48, 48], [90, 48, 55], [90, 48, 55, 48, 48, 48, 48], [90, 48, 55, 58, 48, 48, 58, 48, 48], [77, 83, 84]]
def element (p : Pc) : Bytes :=
  if p.kind = 33 then mark p.comma ++ List.replicate p.n.toNat 48
  else if p.kind = 34 then mark p.comma ++ List.replicate p.n.toNat 57
  else if within p.kind 1 32 = true then elemTexts.getD p.kind.toNat [] else p.text
def layout (ps : List Pc) : Bytes := ps.flatMap element
/-- What a time is told as by one piece. -/
def written (p : Pc) (c : Civ) : Bytes :=
  if p.kind = 0 then p.text
  else if p.kind = 1 then digits c.year 4
  else if p.kind = 2 then digits (c.year % 100) 2
  else if p.kind = 3 then monthName c.month
  else if p.kind = 4 then (monthName c.month).take 3
  else if p.kind = 5 then digits c.month 2
  else if p.kind = 6 then digits c.month 1
  else if p.kind = 7 then dayName (weekday c.year c.month c.day)
  else if p.kind = 8 then (dayName (weekday c.year c.month c.day)).take 3
  else if p.kind = 9 then digits c.day 1
  else if p.kind = 10 then blank c.day 2
  else if p.kind = 11 then digits c.day 2
  else if p.kind = 12 then blank (yearDay c.year c.month c.day) 3
  else if p.kind = 13 then digits (yearDay c.year c.month c.day) 3
  else if p.kind = 14 then digits c.hour 2
  else if p.kind = 15 then digits (hour12 c.hour) 1
  else if p.kind = 16 then digits (hour12 c.hour) 2
  else if p.kind = 17 then digits c.minute 1
  else if p.kind = 18 then digits c.minute 2
  else if p.kind = 19 then digits c.second 1
  else if p.kind = 20 then digits c.second 2
  else if p.kind = 21 then halfB c.hour
  else if p.kind = 32 then c.zone.name
  else if p.kind = 33 then fraction c.nano p.n.toNat p.comma
  else if p.kind = 34 then trimmed c.nano p.n.toNat p.comma
  else if isISO p.kind = true ∧ c.zone.off = 0 then [90]
  else zoneText p.kind c.zone.off
def writtenAll (ps : List Pc) (c : Civ) : Bytes := ps.flatMap fun p => written p c
def readable (ps : List Pc) (c : Civ) : Bool :=
  !((anyK ps 15 16 && !hasK ps 21) || (hasK ps 21 && !anyK ps 14 16)) && (!(anyK ps 12 13 && !anyK ps 1 2) && (!(hasK ps 2 && !within c.year 1969 2068) && (!(hasK ps 32 && !abbreviated c.zone) && fits ps c)))
/-- How many digits of a fraction pieces tell. -/
def digitsN (ps : List Pc) : Int := match ps.find? fun p => isFraction p.kind with
  | some p => p.n
  | none => 0
def told (ps : List Pc) (c : Civ) (z : Zn) : Civ :=
  { year := if anyK ps 1 2 = true then c.year else 0
    month := if (anyK ps 3 6 || anyK ps 12 13) = true then c.month else 1
    day := if (anyK ps 9 11 || anyK ps 12 13) = true then c.day else 1
    hour := if anyK ps 14 16 = true then c.hour else 0
    minute := if anyK ps 17 18 = true then c.minute else 0
    second := if anyK ps 19 20 = true then c.second else 0
    nano := cut c.nano (digitsN ps).toNat
    zone := if anyK ps 22 31 = true then { name := [], off := c.zone.off } else if (hasK ps 32 && !(c.zone.name == z.name)) = true then { name := c.zone.name, off := 0 } else z }
end Go.Proofs.YtndhiemagankeaaGreatDoor
