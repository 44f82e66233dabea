/- Plain functions on byte lists: what the string functions of the package compute. No program in sight. -/
import Derived.WalkKit
namespace Go.Proofs.YtcofblepdfjhjaaGreatDoor
open Go.RowKit
/-- The bytes of a string, and the string of bytes. -/
def lst (s : ByteArray) : List UInt8 := s.data.toList
def str (l : List UInt8) : ByteArray := ⟨l.toArray⟩
theorem lst_str (l : List UInt8) : lst (str l) = l := by simp [lst, str]
theorem str_lst (s : ByteArray) : str (lst s) = s := by cases s; simp [lst, str]
theorem lst_inj {a b : ByteArray} (h : lst a = lst b) : a = b := by rw [← str_lst a, h, str_lst]
theorem lst_len (s : ByteArray) : (lst s).length = s.size := by simp [lst]
theorem str_size (l : List UInt8) : (str l).size = l.length := by simp [str, ByteArray.size]
theorem lst_get (s : ByteArray) (k : Nat) (h : k < s.size) : (lst s)[k]? = some s[k] := by
  simp only [lst]
  rw [List.getElem?_eq_getElem (by simpa using h)]; rfl
theorem drop_cons (s : ByteArray) (k : Nat) (h : k < s.size) : (lst s).drop k = s[k] :: (lst s).drop (k + 1) := by
  simp only [lst]
  rw [List.drop_eq_getElem_cons (by simpa using h)]; rfl
theorem drop_nil (s : ByteArray) (k : Nat) (h : ¬ k < s.size) : (lst s).drop k = [] := by
  rw [List.drop_eq_nil_of_le (by rw [lst_len]; omega)]
theorem take_snoc (s : ByteArray) (k : Nat) (h : k < s.size) : (lst s).take (k + 1) = (lst s).take k ++ [s[k]] := by
  simp only [lst]
  rw [List.take_succ_eq_append_getElem (by simpa using h)]; rfl
theorem lst_extract (s : ByteArray) (i j : Nat) : lst (s.extract i j) = ((lst s).drop i).take (j - i) := by
  simp [lst, ByteArray.data_extract, List.extract_eq_take_drop]
/-- The first place of byte n, or -1. -/
def idxGo (n : Int) : Nat → List UInt8 → Int
  | _, [] => -1
  | k, x :: r => if (x.toNat : Int) = n then k else idxGo n (k + 1) r
def idx (n : Int) (l : List UInt8) : Int := idxGo n 0 l
/-- The last place of byte n, or -1: the list is read from its end (k bytes are left). -/
def lastGo (n : Int) (l : List UInt8) : Nat → Int
  | 0 => -1
  | k + 1 => if ((l.getD k 0).toNat : Int) = n then k else lastGo n l k
def lastIdx (n : Int) (l : List UInt8) : Int := lastGo n l l.length
/-- How often byte n stands in a list. -/
def cntGo (n : Int) : Int → List UInt8 → Int
  | c, [] => c
  | c, x :: r => if (x.toNat : Int) = n then cntGo n (c + 1) r else cntGo n c r
def cnt (n : Int) (l : List UInt8) : Int := cntGo n 0 l
def printB : List UInt8 → Bool
  | [] => true
  | x :: r => if (x.toNat : Int) < 32 ∨ 126 < (x.toNat : Int) then false else printB r
def asciiB : List UInt8 → Bool
  | [] => true
  | x :: r => if 127 < (x.toNat : Int) then false else asciiB r
/-- A list without a last byte n. -/
def trimSuf (n : Int) (l : List UInt8) : List UInt8 := if 0 < l.length ∧ ((l.getD (l.length - 1) 0).toNat : Int) = n then l.take (l.length - 1) else l
def trimPre (n : Int) (l : List UInt8) : List UInt8 := if 0 < l.length ∧ ((l.getD 0 0).toNat : Int) = n then l.drop 1 else l
def hasPre (l t : List UInt8) : Bool := decide (t.length ≤ l.length ∧ l.take t.length = t)
def dotSuf (l t : List UInt8) : Bool := decide (t.length < l.length ∧ ((l.getD (l.length - t.length - 1) 0).toNat : Int) = 46 ∧ l.drop (l.length - t.length) = t)
theorem getD_lst (s : ByteArray) (k : Nat) (h : k < s.size) : (lst s).getD k 0 = s[k] := by rw [List.getD_eq_getElem?_getD, lst_get s k h]; rfl
/-- A byte in lower case; in upper case. -/
def lowC (x : UInt8) : UInt8 := if 65 ≤ (x.toNat : Int) ∧ (x.toNat : Int) ≤ 90 then x + 32 else x
def upC (x : UInt8) : UInt8 := if 97 ≤ (x.toNat : Int) ∧ (x.toNat : Int) ≤ 122 then x - 32 else x
def low (l : List UInt8) : List UInt8 := l.map lowC
def upp (l : List UInt8) : List UInt8 := l.map upC
/-- The IPv4 reader: value, dots, digits, the first number; what is left; whether this is the text's last byte is told by the rest. -/
def ip4Go (v p d : Int) (first : Int) : List UInt8 → Int × Bool
  | [] => (first, decide (p = 3 ∧ 0 < d))
  | x :: r =>
    if 48 ≤ (x.toNat : Int) ∧ (x.toNat : Int) ≤ 57 then
      if d = 1 ∧ v = 0 then (0, false)
      else if 255 < v * 10 + ((x.toNat : Int) - 48) then (0, false)
      else ip4Go (v * 10 + ((x.toNat : Int) - 48)) p (d + 1) first r
    else if (x.toNat : Int) = 46 then
      if d = 0 ∨ r = [] ∨ p = 3 then (0, false)
      else ip4Go 0 (p + 1) 0 (if p = 0 then v else first) r
    else (0, false)
def ip4 (l : List UInt8) : Int × Bool := ip4Go 0 0 0 0 l
theorem toList_lst (s : ByteArray) : s.toList = lst s := ByteArray.toList_eq s
theorem beq_lst (a b : ByteArray) : (a.toList == b.toList) = decide (lst a = lst b) := by rw [toList_lst, toList_lst, Bool.eq_iff_iff]; simp
theorem extract_to (s : ByteArray) (k : Nat) : lst (s.extract 0 k) = (lst s).take k := by rw [lst_extract]; simp
theorem extract_from (s : ByteArray) (k : Nat) : lst (s.extract k s.size) = (lst s).drop k := by rw [lst_extract, ← lst_len, ← List.length_drop, List.take_length]
theorem eq_iff_lst (a b : ByteArray) : a = b ↔ lst a = lst b := ⟨fun h => by rw [h], lst_inj⟩
end Go.Proofs.YtcofblepdfjhjaaGreatDoor
