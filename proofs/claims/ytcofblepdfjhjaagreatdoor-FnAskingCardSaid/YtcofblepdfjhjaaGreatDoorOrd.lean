/- The order of the entries that are sent: plain facts. -/
import Derived.Test.YtcofblepdfjhjaaGreatDoorW23
import Derived.Shelf.SlSortCmp.Insertion
namespace Go.Proofs.YtcofblepdfjhjaaGreatDoor
open Go.RowKit Go.Sort Go.Lib
theorem bl_irrefl : ∀ a : List UInt8, Op.bytesLess a a = false
  | [] => rfl
  | x :: r => by simp [Op.bytesLess, bl_irrefl r, UInt8.lt_irrefl]
theorem bl_total : ∀ a b : List UInt8, Op.bytesLess a b = false → Op.bytesLess b a = false → a = b
  | [], [], _, _ => rfl
  | [], y :: s, h, _ => by simp [Op.bytesLess] at h
  | x :: r, [], _, h => by simp [Op.bytesLess] at h
  | x :: r, y :: s, h1, h2 => by
    simp only [Op.bytesLess, Bool.or_eq_false_iff, decide_eq_false_iff_not, Bool.and_eq_false_imp, beq_iff_eq] at h1 h2
    have e : x = y := UInt8.le_antisymm (UInt8.not_lt.1 h2.1) (UInt8.not_lt.1 h1.1)
    subst e
    rw [bl_total r s (h1.2 rfl) (h2.2 rfl)]
theorem bl_trans : ∀ a b c : List UInt8, Op.bytesLess a b = true → Op.bytesLess b c = true → Op.bytesLess a c = true
  | _, _, [], _, h => by simp [Op.bytesLess] at h
  | _, [], _ :: _, h, _ => by simp [Op.bytesLess] at h
  | [], _ :: _, _ :: _, _, _ => by simp [Op.bytesLess]
  | x :: r, y :: s, z :: t, h1, h2 => by
    simp only [Op.bytesLess, Bool.or_eq_true, decide_eq_true_eq, Bool.and_eq_true, beq_iff_eq] at h1 h2 ⊢
    rcases h1 with h1 | ⟨rfl, h1⟩
    · rcases h2 with h2 | ⟨rfl, h2⟩
      · exact Or.inl (UInt8.lt_trans h1 h2)
      · exact Or.inl h1
    · rcases h2 with h2 | ⟨rfl, h2⟩
      · exact Or.inl h2
      · exact Or.inr ⟨rfl, bl_trans r s t h1 h2⟩
/-- Entry x stands ahead of entry y. -/
def entLt (x y : Ent) : Prop := Op.bytesLess (lst y.path) (lst x.path) = true ∨ (x.path = y.path ∧ (x.cre < y.cre ∨ (x.cre = y.cre ∧ x.seq < y.seq)))
theorem cmpE_neg (x y : Ent) : cmpE x y < 0 ↔ entLt x y := by
  unfold cmpE entLt
  rw [toList_lst, toList_lst]
  by_cases hp : x.path = y.path
  · rw [if_pos hp]
    have hn : Op.bytesLess (lst y.path) (lst x.path) = false := by rw [hp]; exact bl_irrefl _
    rw [hn]
    have key : (if cmpI x.cre y.cre = 0 then (if x.seq < y.seq then -1 else if y.seq < x.seq then 1 else 0) else cmpI x.cre y.cre) < (0 : Int) ↔ x.cre < y.cre ∨ (x.cre = y.cre ∧ x.seq < y.seq) := by
      unfold cmpI
      by_cases h1 : x.cre < y.cre
      · simp [h1]
      · by_cases h2 : x.cre = y.cre
        · by_cases h3 : x.seq < y.seq
          · simp [h2, h3]
          · by_cases h4 : y.seq < x.seq <;> simp [h2, h3, h4]
        · simp [h1, h2]
    rw [key]
    exact ⟨fun h => Or.inr ⟨hp, h⟩, fun h => by rcases h with h | h; cases h; exact h.2⟩
  · rw [if_neg hp]
    cases h : Op.bytesLess (lst y.path) (lst x.path) <;> simp [hp]
theorem entLt_irrefl (x : Ent) : ¬ entLt x x := by
  rintro (h | ⟨_, h | ⟨_, h⟩⟩)
  · rw [bl_irrefl] at h; cases h
  · omega
  · omega
theorem entLt_trans {x y z : Ent} (h1 : entLt x y) (h2 : entLt y z) : entLt x z := by
  rcases h1 with h1 | ⟨e1, h1⟩
  · rcases h2 with h2 | ⟨e2, h2⟩
    · exact Or.inl (bl_trans _ _ _ h2 h1)
    · exact Or.inl (by rw [← e2]; exact h1)
  · rcases h2 with h2 | ⟨e2, h2⟩
    · exact Or.inl (by rw [e1]; exact h2)
    · exact Or.inr ⟨e1.trans e2, by omega⟩
/-- The order's key. -/
theorem entLt_split (x y : Ent) : entLt x y ∨ entLt y x ∨ (x.path = y.path ∧ x.cre = y.cre ∧ x.seq = y.seq) := by
  unfold entLt
  by_cases hp : x.path = y.path
  · have : x.cre < y.cre ∨ y.cre < x.cre ∨ (x.cre = y.cre ∧ (x.seq < y.seq ∨ y.seq < x.seq ∨ x.seq = y.seq)) := by omega
    rcases this with h | h | ⟨h, h' | h' | h'⟩
    · exact Or.inl (Or.inr ⟨hp, Or.inl h⟩)
    · exact Or.inr (Or.inl (Or.inr ⟨hp.symm, Or.inl h⟩))
    · exact Or.inl (Or.inr ⟨hp, Or.inr ⟨h, h'⟩⟩)
    · exact Or.inr (Or.inl (Or.inr ⟨hp.symm, Or.inr ⟨h.symm, h'⟩⟩))
    · exact Or.inr (Or.inr ⟨hp, h, h'⟩)
  · cases h1 : Op.bytesLess (lst y.path) (lst x.path)
    · cases h2 : Op.bytesLess (lst x.path) (lst y.path)
      · exact absurd (lst_inj (bl_total _ _ h2 h1)) hp
      · exact Or.inr (Or.inl (Or.inl rfl))
    · exact Or.inl (Or.inl rfl)
theorem entLt_key {x y z : Ent} (h : x.path = y.path ∧ x.cre = y.cre ∧ x.seq = y.seq) : (entLt x z ↔ entLt y z) ∧ (entLt z x ↔ entLt z y) := by
  unfold entLt; rw [h.1, h.2.1, h.2.2]; exact ⟨Iff.rfl, Iff.rfl⟩
theorem cmpE_swo : SWO (ltOf cmpE) := by
  have hl : ∀ x y, ltOf cmpE x y = true ↔ entLt x y := fun x y => by rw [ltOf, decide_eq_true_eq, cmpE_neg]
  have hf : ∀ x y, ltOf cmpE x y = false ↔ ¬ entLt x y := fun x y => by rw [← hl]; simp
  refine ⟨fun x => (hf x x).2 (entLt_irrefl x), fun x y z h1 h2 => (hl x z).2 (entLt_trans ((hl x y).1 h1) ((hl y z).1 h2)), fun x y z h1 h2 => (hf x z).2 fun h => ?_⟩
  have g1 := (hf x y).1 h1
  have g2 := (hf y z).1 h2
  rcases entLt_split x y with h3 | h3 | h3
  · exact g1 h3
  · exact g2 (entLt_trans h3 h)
  · exact g2 ((entLt_key h3).1.1 h)
end Go.Proofs.YtcofblepdfjhjaaGreatDoor
