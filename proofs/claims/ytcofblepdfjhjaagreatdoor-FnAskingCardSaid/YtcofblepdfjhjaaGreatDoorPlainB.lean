/- Plain lemmas on byte lists: places, counts, hosts with and without a port. -/
import Derived.Test.YtcofblepdfjhjaaGreatDoorPlain
namespace Go.Proofs.YtcofblepdfjhjaaGreatDoor
theorem idxGo_none (n : Int) : ∀ (l : List UInt8) (k : Nat), (∀ x ∈ l, (x.toNat : Int) ≠ n) → idxGo n k l = -1
  | [], _, _ => rfl
  | x :: r, k, h => by rw [idxGo, if_neg (h x (by simp))]; exact idxGo_none n r (k + 1) fun y hy => h y (by simp [hy])
theorem idx_none {n : Int} {l : List UInt8} (h : ∀ x ∈ l, (x.toNat : Int) ≠ n) : idx n l = -1 := idxGo_none n l 0 h
theorem idxGo_ge (n : Int) : ∀ (l : List UInt8) (k : Nat), -1 ≤ idxGo n k l
  | [], _ => by rw [idxGo]; omega
  | x :: r, k => by
    rw [idxGo]
    split
    · omega
    · exact idxGo_ge n r (k + 1)
theorem idxGo_lt (n : Int) : ∀ (l : List UInt8) (k : Nat), idxGo n k l < (k : Int) + l.length ∨ l = []
  | [], _ => Or.inr rfl
  | x :: r, k => by
    left
    rw [idxGo]
    split
    · simp; omega
    · rcases idxGo_lt n r (k + 1) with h | h
      · simp; omega
      · subst h; simp [idxGo]; omega
theorem cntGo_none (n : Int) : ∀ (l : List UInt8) (c : Int), (∀ x ∈ l, (x.toNat : Int) ≠ n) → cntGo n c l = c
  | [], _, _ => rfl
  | x :: r, c, h => by rw [cntGo, if_neg (h x (by simp))]; exact cntGo_none n r c fun y hy => h y (by simp [hy])
theorem cntGo_append (n : Int) : ∀ (l r : List UInt8) (c : Int), cntGo n c (l ++ r) = cntGo n (cntGo n c l) r
  | [], _, _ => rfl
  | x :: l, r, c => by
    rw [List.cons_append, cntGo, cntGo]
    split
    · exact cntGo_append n l r _
    · exact cntGo_append n l r _
theorem lastGo_none (n : Int) (l : List UInt8) : ∀ k, k ≤ l.length → (∀ x ∈ l, (x.toNat : Int) ≠ n) → lastGo n l k = -1
  | 0, _, _ => rfl
  | k + 1, hk, h => by
    rw [lastGo, if_neg]
    · exact lastGo_none n l k (by omega) h
    · rw [List.getD_eq_getElem?_getD, List.getElem?_eq_getElem (by omega)]
      exact h _ (List.getElem_mem _)
theorem lastIdx_none {n : Int} {l : List UInt8} (h : ∀ x ∈ l, (x.toNat : Int) ≠ n) : lastIdx n l = -1 := lastGo_none n l _ (Nat.le_refl _) h
/-- The last place of n in 'a n b', b without n: a's length. -/
theorem lastGo_at (n : Int) (a b : List UInt8) (x : UInt8) (hx : (x.toNat : Int) = n) (hb : ∀ y ∈ b, (y.toNat : Int) ≠ n) : ∀ k, k ≤ b.length → lastGo n (a ++ x :: b) (a.length + 1 + k) = a.length
  | 0, _ => by
    show lastGo n (a ++ x :: b) (a.length + 1) = _
    rw [lastGo, if_pos]
    rw [List.getD_eq_getElem?_getD, List.getElem?_append_right (Nat.le_refl _)]
    simpa using hx
  | k + 1, hk => by
    show lastGo n (a ++ x :: b) ((a.length + 1 + k) + 1) = _
    rw [lastGo, if_neg]
    · exact lastGo_at n a b x hx hb k (by omega)
    · rw [List.getD_eq_getElem?_getD, List.getElem?_append_right (by omega)]
      have e : a.length + 1 + k - a.length = k + 1 := by omega
      rw [e, List.getElem?_cons_succ, List.getElem?_eq_getElem (by omega)]
      exact hb _ (List.getElem_mem _)
theorem lastIdx_at {n : Int} {a b : List UInt8} {x : UInt8} (hx : (x.toNat : Int) = n) (hb : ∀ y ∈ b, (y.toNat : Int) ≠ n) : lastIdx n (a ++ x :: b) = a.length := by
  have := lastGo_at n a b x hx hb b.length (Nat.le_refl _)
  rw [lastIdx]
  rw [show (a ++ x :: b).length = a.length + 1 + b.length by simp; omega]
  exact this
/-- Whatever the list: no n in it, or it is cut at the last one. -/
theorem last_cases (n : Int) (l : List UInt8) : (∀ x ∈ l, (x.toNat : Int) ≠ n) ∨ ∃ a x b, l = a ++ x :: b ∧ (x.toNat : Int) = n ∧ ∀ y ∈ b, (y.toNat : Int) ≠ n := by
  induction l with
  | nil => left; simp
  | cons y r ih =>
    rcases ih with h | ⟨a, x, b, rfl, hx, hb⟩
    · by_cases hy : (y.toNat : Int) = n
      · exact Or.inr ⟨[], y, r, rfl, hy, h⟩
      · left
        intro z hz
        rcases List.mem_cons.1 hz with e | e
        · subst e; exact hy
        · exact h z e
    · exact Or.inr ⟨y :: a, x, b, rfl, hx, hb⟩
/-- The signs of a host name. -/
def hostCh (x : UInt8) : Prop := (97 ≤ (x.toNat : Int) ∧ (x.toNat : Int) ≤ 122) ∨ (65 ≤ (x.toNat : Int) ∧ (x.toNat : Int) ≤ 90) ∨ (48 ≤ (x.toNat : Int) ∧ (x.toNat : Int) ≤ 57) ∨ (x.toNat : Int) = 45 ∨ (x.toNat : Int) = 46
def digCh (x : UInt8) : Prop := 48 ≤ (x.toNat : Int) ∧ (x.toNat : Int) ≤ 57
/-- What is asked of a host for its canonical form: signs of a name, not empty, no dot at its end. -/
structure HostSigns (h : List UInt8) : Prop where
  ne : h ≠ []
  ch : ∀ x ∈ h, hostCh x
  last : ((h.getD (h.length - 1) 0).toNat : Int) ≠ 46
/-- A host, perhaps with a port. -/
def HostPort (l h : List UInt8) : Prop := HostSigns h ∧ (l = h ∨ ∃ p, l = h ++ 58 :: p ∧ ∀ x ∈ p, digCh x)
theorem HostSigns.none {h : List UInt8} (H : HostSigns h) (n : Int) (hn : n = 58 ∨ n = 91 ∨ n = 93 ∨ n = 37) : ∀ x ∈ h, (x.toNat : Int) ≠ n := by
  intro x hx
  have := H.ch x hx
  unfold hostCh at this
  omega
theorem dig_none {p : List UInt8} (H : ∀ x ∈ p, digCh x) (n : Int) (hn : n = 58 ∨ n = 91 ∨ n = 93) : ∀ x ∈ p, (x.toNat : Int) ≠ n := by
  intro x hx
  have := H x hx
  unfold digCh at this
  omega
theorem HostSigns.trim {h : List UInt8} (H : HostSigns h) : trimSuf 46 h = h := by
  rw [trimSuf, if_neg (fun e => H.last e.2)]
theorem ascii_all : ∀ (l : List UInt8), (∀ x ∈ l, (x.toNat : Int) ≤ 127) → asciiB l = true
  | [], _ => rfl
  | x :: r, h => by
    rw [asciiB, if_neg (by have := h x (by simp); omega)]
    exact ascii_all r fun y hy => h y (by simp [hy])
theorem print_all : ∀ (l : List UInt8), (∀ x ∈ l, 32 ≤ (x.toNat : Int) ∧ (x.toNat : Int) ≤ 126) → printB l = true
  | [], _ => rfl
  | x :: r, h => by
    rw [printB, if_neg (by have := h x (by simp); omega)]
    exact print_all r fun y hy => h y (by simp [hy])
theorem HostSigns.ascii {h : List UInt8} (H : HostSigns h) : asciiB h = true := ascii_all h fun x hx => by have := H.ch x hx; unfold hostCh at this; omega
theorem HostSigns.print {h : List UInt8} (H : HostSigns h) : printB h = true := print_all h fun x hx => by have := H.ch x hx; unfold hostCh at this; omega
theorem cnt_none {n : Int} {l : List UInt8} (h : ∀ x ∈ l, (x.toNat : Int) ≠ n) : cnt n l = 0 := cntGo_none n l 0 h
theorem cnt_one {n : Int} {a b : List UInt8} {x : UInt8} (hx : (x.toNat : Int) = n) (ha : ∀ y ∈ a, (y.toNat : Int) ≠ n) (hb : ∀ y ∈ b, (y.toNat : Int) ≠ n) : cnt n (a ++ x :: b) = 1 := by
  rw [cnt, cntGo_append, cntGo_none n a 0 ha, cntGo, if_pos hx, cntGo_none n b _ hb]; rfl
/-- The directory of a path. -/
def defPath (l : List UInt8) : List UInt8 := if l.length = 0 ∨ ((l.getD 0 0).toNat : Int) ≠ 47 then [47] else if lastIdx 47 l = 0 then [47] else l.take (lastIdx 47 l).toNat
def isIPB (l : List UInt8) : Bool := decide (0 ≤ idx 58 l ∨ 0 ≤ idx 37 l) || (ip4 l).2
theorem isIP_host {h : List UInt8} (h1 : ∀ x ∈ h, (x.toNat : Int) ≠ 58) (h2 : ∀ x ∈ h, (x.toNat : Int) ≠ 37) : isIPB h = (ip4 h).2 := by
  rw [isIPB, idx_none h1, idx_none h2]; simp
end Go.Proofs.YtcofblepdfjhjaaGreatDoor
