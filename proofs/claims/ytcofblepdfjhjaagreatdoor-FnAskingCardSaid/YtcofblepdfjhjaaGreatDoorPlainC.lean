/- Plain functions: labels, names, numbers, addresses, hosts, ports, paths and words, as the reference has them. -/
import Derived.Test.YtcofblepdfjhjaaGreatDoorPlainB
namespace Go.Proofs.YtcofblepdfjhjaaGreatDoor
/-- The parts of a list between dots; cur: what stands since the last dot. -/
def labelsGo (cur : List UInt8) : List UInt8 → List (List UInt8)
  | [] => [cur]
  | x :: r => if (x.toNat : Int) = 46 then cur :: labelsGo [] r else labelsGo (cur ++ [x]) r
def labels (l : List UInt8) : List (List UInt8) := labelsGo [] l
theorem labelsGo_ne (l : List UInt8) : ∀ cur, labelsGo cur l ≠ [] := by
  induction l with
  | nil => intro cur; simp [labelsGo]
  | cons x r ih =>
    intro cur
    rw [labelsGo]
    split
    · simp
    · exact ih _
theorem labels_ne (l : List UInt8) : labels l ≠ [] := labelsGo_ne l []
theorem labelsGo_len (l : List UInt8) : ∀ cur, (labelsGo cur l).length ≤ l.length + 1 := by
  induction l with
  | nil => intro cur; simp [labelsGo]
  | cons x r ih =>
    intro cur
    rw [labelsGo]
    split
    · simp; exact ih []
    · have := ih (cur ++ [x]); simp; omega
theorem labels_len (l : List UInt8) : (labels l).length ≤ l.length + 1 := labelsGo_len l []
def allDig : List UInt8 → Bool
  | [] => true
  | x :: r => if (x.toNat : Int) < 48 ∨ 57 < (x.toNat : Int) then false else allDig r
def digB (l : List UInt8) : Bool := allDig l && decide (l ≠ [] ∧ l.length ≤ 5)
def numB (l : List UInt8) : Bool := (labels l).all digB
def gtB (a b : List UInt8) : Bool := !Op.bytesLess a b && !(a == b)
def addrLab (x : List UInt8) : Bool := digB x && !(decide (3 < x.length) || (decide (x.length = 3) && gtB x [50, 53, 53]) || decide (1 < x.length ∧ ((x.getD 0 0).toNat : Int) = 48))
def isAddrB (l : List UInt8) : Bool := (labels l).all addrLab && decide ((labels l).length = 4)
/-- A sign of a name (as the code asks: a letter with its 32-bit set, or a digit, or a hyphen). -/
def orBit (x : UInt8) : Int := ((x ||| 32).toNat : Int)
def nameCh (x : UInt8) : Bool := decide ((97 ≤ orBit x ∧ orBit x ≤ 122) ∨ (48 ≤ (x.toNat : Int) ∧ (x.toNat : Int) ≤ 57) ∨ (x.toNat : Int) = 45)
def allName : List UInt8 → Bool
  | [] => true
  | x :: r => if nameCh x = true then allName r else false
def nameLab (x : List UInt8) : Bool := decide (x ≠ [] ∧ ((x.getD 0 0).toNat : Int) ≠ 45 ∧ ((x.getD (x.length - 1) 0).toNat : Int) ≠ 45) && allName x
def isNameB (l : List UInt8) : Bool := (labels l).all nameLab
def lastLab (l : List UInt8) : List UInt8 := (labels l).getD ((labels l).length - 1) []
def localhost : List UInt8 := [108, 111, 99, 97, 108, 104, 111, 115, 116]
def isHostB (l : List UInt8) : Bool := isNameB l && !(low (lastLab l) == localhost) && ((isAddrB l && !((labels l).getD 0 [] == [49, 50, 55])) || !numB (lastLab l))
/-- A host and its port: what stands ahead of the first colon, and behind it. -/
def splitB (l : List UInt8) : List UInt8 × List UInt8 := if idx 58 l = -1 then (l, [48]) else (l.take (idx 58 l).toNat, l.drop ((idx 58 l).toNat + 1))
/-- A sign of a path; a sign of a word. -/
def pathCh (x : UInt8) : Bool := decide ((97 ≤ (x.toNat : Int) ∧ (x.toNat : Int) ≤ 122) ∨ (48 ≤ (x.toNat : Int) ∧ (x.toNat : Int) ≤ 57) ∨ (x.toNat : Int) = 47 ∨ (x.toNat : Int) = 45)
def wordCh (x : UInt8) : Bool := decide ((97 ≤ orBit x ∧ orBit x ≤ 122) ∨ (48 ≤ (x.toNat : Int) ∧ (x.toNat : Int) ≤ 57))
def allPath : List UInt8 → Bool
  | [] => true
  | x :: r => if pathCh x = true then allPath r else false
def allWord : List UInt8 → Bool
  | [] => true
  | x :: r => if wordCh x = true then allWord r else false
def isPathB (l : List UInt8) : Bool := allPath l && decide (l = [] ∨ ((l.getD 0 0).toNat : Int) = 47)
/-- The tail of the test of a cookie's domain; the test. -/
def domTail (listed : Bool) (l : List UInt8) : Bool := decide (l ≠ []) && isHostB l && (listed || decide (1 < (labels l).length))
def plainDomB (listed : Bool) (l : List UInt8) : Bool :=
  if l = [] then true
  else if ((l.getD 0 0).toNat : Int) = 46 then (if isAddrB (l.drop 1) = true then false else domTail listed (l.drop 1))
  else domTail listed l
/-- A host's canonical name, as the reference has it. -/
def hostB (l : List UInt8) : List UInt8 := low (splitB l).1
theorem or_bits (x : UInt8) : bits BinOp.or IntKind.u8 (x.toNat : Int) 32 = orBit x := by
  have h : ∀ n : Fin 256, bits BinOp.or IntKind.u8 (n.val : Int) 32 = ((UInt8.ofNat n.val ||| 32).toNat : Int) := by decide +kernel
  have := h ⟨x.toNat, x.toNat_lt⟩
  rw [orBit]
  simpa using this
end Go.Proofs.YtcofblepdfjhjaaGreatDoor
