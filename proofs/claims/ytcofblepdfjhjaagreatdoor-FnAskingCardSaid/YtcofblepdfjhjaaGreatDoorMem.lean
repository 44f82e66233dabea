/- How the arguments lie in memory: lists of strings, cookies, steps. -/
import Derived.Test.YtcofblepdfjhjaaGreatDoorW10
namespace Go.Proofs.YtcofblepdfjhjaaGreatDoor
open Go.RowKit
structure PCookie where
  name : ByteArray
  value : ByteArray
  domain : ByteArray
  path : ByteArray
  maxAge : Int
  expires : Int
  secure : Bool
structure PStep where
  set : Bool
  tm : Int
  scheme : ByteArray
  host : ByteArray
  path : ByteArray
  cookies : List PCookie
/-- A number that an int holds. -/
def I64 (n : Int) : Prop := -9223372036854775808 ≤ n ∧ n ≤ 9223372036854775807
def ckCells (c : PCookie) : List Value := [.string c.name, .string c.value, .string c.domain, .string c.path, .int .i64 c.maxAge, .int .i64 c.expires, .bool c.secure]
/-- From offset o on block b holds these cells. -/
def RowAt (w : World) (b o : Nat) (us : List Value) : Prop := ∀ i u, us[i]? = some u → w.cell? ⟨b, o + i, none⟩ = some u
theorem RowAt.below {w w' : World} {b o B : Nat} {us : List Value} (h : RowAt w b o us) (hb : Below B w w') (hB : b < B) : RowAt w' b o us :=
  fun i u hu => by rw [hb.cell (p := ⟨b, o + i, none⟩) hB]; exact h i u hu
theorem row6 {w : World} {b o : Nat} {u0 u1 u2 u3 u4 u5 : Value} (h : RowAt w b o [u0, u1, u2, u3, u4, u5]) :
    w.cell? ⟨b, o, none⟩ = some u0 ∧ w.cell? ⟨b, o + 1, none⟩ = some u1 ∧ w.cell? ⟨b, o + 2, none⟩ = some u2 ∧ w.cell? ⟨b, o + 3, none⟩ = some u3 ∧ w.cell? ⟨b, o + 4, none⟩ = some u4 ∧ w.cell? ⟨b, o + 5, none⟩ = some u5 :=
  ⟨h 0 _ rfl, h 1 _ rfl, h 2 _ rfl, h 3 _ rfl, h 4 _ rfl, h 5 _ rfl⟩
theorem row7 {w : World} {b o : Nat} {u0 u1 u2 u3 u4 u5 u6 : Value} (h : RowAt w b o [u0, u1, u2, u3, u4, u5, u6]) :
    w.cell? ⟨b, o, none⟩ = some u0 ∧ w.cell? ⟨b, o + 1, none⟩ = some u1 ∧ w.cell? ⟨b, o + 2, none⟩ = some u2 ∧ w.cell? ⟨b, o + 3, none⟩ = some u3 ∧ w.cell? ⟨b, o + 4, none⟩ = some u4 ∧ w.cell? ⟨b, o + 5, none⟩ = some u5 ∧ w.cell? ⟨b, o + 6, none⟩ = some u6 :=
  ⟨h 0 _ rfl, h 1 _ rfl, h 2 _ rfl, h 3 _ rfl, h 4 _ rfl, h 5 _ rfl, h 6 _ rfl⟩
/-- A slice of n elements of sz cells: where its elements lie (nothing is said of an empty one). -/
structure SliceAt (w : World) (B : Nat) (v : Value) (n sz : Nat) (cells : Nat → List Value) : Prop where
  ex : ∃ ao b off cap, v = .slice ao n cap ∧ (0 < n → ao = some ⟨b, off, none⟩ ∧ b < B) ∧ ∀ j, j < n → RowAt w b (off + j * sz) (cells j)
theorem SliceAt.below {w w' : World} {B B' n sz : Nat} {v : Value} {cells : Nat → List Value} (h : SliceAt w B v n sz cells) (hb : Below B' w w') (hB : B ≤ B') : SliceAt w' B v n sz cells := by
  obtain ⟨ao, b, off, cap, hv, ha, hc⟩ := h.ex
  exact ⟨ao, b, off, cap, hv, ha, fun j hj => (hc j hj).below hb (Nat.lt_of_lt_of_le (ha (by omega)).2 hB)⟩
/-- A list of strings in memory below block B. -/
def StrsAt (w : World) (B : Nat) (v : Value) (ls : List ByteArray) : Prop := SliceAt w B v ls.length 1 fun j => [.string (ls.getD j ByteArray.empty)]
def CookiesAt (w : World) (B : Nat) (v : Value) (cs : List PCookie) : Prop := SliceAt w B v cs.length 7 fun j => (cs[j]?.map ckCells).getD []
theorem StrsAt.below {w w' : World} {B B' : Nat} {v : Value} {ls : List ByteArray} (h : StrsAt w B v ls) (hb : Below B' w w') (hB : B ≤ B') : StrsAt w' B v ls := SliceAt.below h hb hB
theorem CookiesAt.below {w w' : World} {B B' : Nat} {v : Value} {cs : List PCookie} (h : CookiesAt w B v cs) (hb : Below B' w w') (hB : B ≤ B') : CookiesAt w' B v cs := SliceAt.below h hb hB
/-- The cells of a step whose cookies are the slice v. -/
def stCells (s : PStep) (v : Value) : List Value := [.bool s.set, .int .i64 s.tm, .string s.scheme, .string s.host, .string s.path, v]
/-- A list of steps in memory below block B; cv: each step's slice of cookies. -/
structure StepsAt (w : World) (B : Nat) (v : Value) (ss : List PStep) : Prop where
  ex : ∃ cv : Nat → Value, SliceAt w B v ss.length 6 (fun j => (ss[j]?.map fun s => stCells s (cv j)).getD []) ∧ ∀ j s, ss[j]? = some s → CookiesAt w B (cv j) s.cookies
theorem StepsAt.below {w w' : World} {B B' : Nat} {v : Value} {ss : List PStep} (h : StepsAt w B v ss) (hb : Below B' w w') (hB : B ≤ B') : StepsAt w' B v ss := by
  obtain ⟨cv, h1, h2⟩ := h.ex
  exact ⟨cv, h1.below hb hB, fun j s hj => (h2 j s hj).below hb hB⟩
/-- The reference's test of steps. -/
def sufOK (s : ByteArray) : Bool := isHostB (lst s) && !isAddrB (lst s) && decide (low (lst s) = lst s)
def ckOK (listed : Bool) (c : PCookie) : Bool :=
  decide (lst c.name ≠ []) && allWord (lst c.name) && allWord (lst c.value) && plainDomB listed (lst c.domain) && decide (c.maxAge ≤ 4294967296) && decide (0 ≤ c.expires ∧ c.expires ≤ 4294967296) &&
    (isPathB (lst c.path) || decide (((lst c.path).getD 0 0).toNat ≠ 47))
def portOK (p : List UInt8) : Bool := digB p && !(gtB p [54, 53, 53, 51, 53] && decide (p.length = 5))
def stOK (before : Int) (s : PStep) : Bool :=
  decide (before ≤ s.tm ∧ s.tm ≤ 4294967296) && isHostB (splitB (lst s.host)).1 && portOK (splitB (lst s.host)).2 && isPathB (lst s.path) && decide (s.cookies.length ≤ 64)
def stepsOK (listed : Bool) (before : Int) : List PStep → Bool
  | [] => true
  | s :: r => stOK before s && s.cookies.all (ckOK listed) && stepsOK listed s.tm r
def validB (listed : Bool) (sufs : List ByteArray) (ss : List PStep) : Bool := sufs.all sufOK && stepsOK listed 1 ss && decide (ss.length ≤ 64)
/-- What the bounds of a law leave of steps. -/
def StFit (s : PStep) : Prop := s.scheme.size ≤ 2147483647 ∧ s.host.size ≤ 4294967296 ∧ s.path.size ≤ 2147483647 ∧ s.cookies.length ≤ 2147483647 ∧ I64 s.tm ∧ ∀ c ∈ s.cookies, c.name.size ≤ 2147483647 ∧ c.value.size ≤ 2147483647 ∧ c.domain.size ≤ 2147483647 ∧ c.path.size ≤ 2147483647 ∧ I64 c.maxAge ∧ I64 c.expires
theorem strs_cell {w : World} {b off : Nat} {ls : List ByteArray} (hc : ∀ j, j < ls.length → RowAt w b (off + j * 1) [.string (ls.getD j ByteArray.empty)]) (k : Nat) (h : k < ls.length) : w.cell? ⟨b, off + k, none⟩ = some (.string ls[k]) := by
  have := hc k h 0 (.string ls[k]) (by rw [List.getD_eq_getElem?_getD, List.getElem?_eq_getElem h]; rfl)
  simpa using this
theorem cookies_row {w : World} {b off : Nat} {cs : List PCookie} (hc : ∀ j, j < cs.length → RowAt w b (off + j * 7) ((cs[j]?.map ckCells).getD [])) (k : Nat) (h : k < cs.length) : RowAt w b (off + k * 7) (ckCells cs[k]) := by
  have := hc k h
  rw [List.getElem?_eq_getElem h] at this
  exact this
theorem steps_row {w : World} {b off : Nat} {ss : List PStep} {cv : Nat → Value} (hc : ∀ j, j < ss.length → RowAt w b (off + j * 6) ((ss[j]?.map fun s => stCells s (cv j)).getD [])) (k : Nat) (h : k < ss.length) : RowAt w b (off + k * 6) (stCells ss[k] (cv k)) := by
  have := hc k h
  rw [List.getElem?_eq_getElem h] at this
  exact this
def most : Nat := 2147483647
/-- The law's bounds on what comes in. -/
def fits1 (ls : List ByteArray) : Bool := decide (ls.length ≤ 2147483647) && ls.all fun s => decide (s.size ≤ 2147483647)
def fits6 (c : PCookie) : Bool := decide (c.name.size ≤ 2147483647 ∧ c.value.size ≤ 2147483647 ∧ c.domain.size ≤ 2147483647 ∧ c.path.size ≤ 2147483647)
def fits4 (sc ho pa : ByteArray) : Bool := decide (sc.size ≤ 2147483647 ∧ ho.size ≤ 2147483647 ∧ pa.size ≤ 2147483647)
def fits5 (cs : List PCookie) : Bool := decide (cs.length ≤ 2147483647) && cs.all fits6
def fits3 (s : PStep) : Bool := fits4 s.scheme s.host s.path && fits5 s.cookies
def fits2 (ss : List PStep) : Bool := decide (ss.length ≤ 2147483647) && ss.all fits3
end Go.Proofs.YtcofblepdfjhjaaGreatDoor
