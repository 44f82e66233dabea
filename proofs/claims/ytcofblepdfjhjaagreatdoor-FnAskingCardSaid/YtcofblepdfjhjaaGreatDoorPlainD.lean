/- Plain lemmas: what the reference's tests say of hosts, domains and steps. -/
import Derived.Test.YtcofblepdfjhjaaGreatDoorMem
import Derived.Test.YtcofblepdfjhjaaGreatDoorW19
import Derived.Test.YtcofblepdfjhjaaGreatDoorW4
namespace Go.Proofs.YtcofblepdfjhjaaGreatDoor
theorem labelsGo_head (l : List UInt8) : ∀ cur, ∃ t L, labelsGo cur l = (cur ++ t) :: L := by
  induction l with
  | nil => intro cur; exact ⟨[], [], by simp [labelsGo]⟩
  | cons x r ih =>
    intro cur
    rw [labelsGo]
    split
    · exact ⟨[], labelsGo [] r, by simp⟩
    · obtain ⟨t, L, h⟩ := ih (cur ++ [x])
      exact ⟨x :: t, L, by rw [h]; simp⟩
theorem labelsGo_mem (l : List UInt8) : ∀ cur, ∀ x ∈ l, (x.toNat : Int) = 46 ∨ ∃ lab ∈ labelsGo cur l, x ∈ lab := by
  induction l with
  | nil => intro cur x hx; cases hx
  | cons y r ih =>
    intro cur x hx
    rw [labelsGo]
    rcases List.mem_cons.1 hx with e | e
    · subst e
      by_cases h : (x.toNat : Int) = 46
      · exact Or.inl h
      · right
        rw [if_neg h]
        obtain ⟨t, L, h'⟩ := labelsGo_head r (cur ++ [x])
        exact ⟨_, by rw [h']; exact List.mem_cons_self, by simp⟩
    · by_cases h : (y.toNat : Int) = 46
      · rw [if_pos h]
        rcases ih [] x e with h' | ⟨lab, h1, h2⟩
        · exact Or.inl h'
        · exact Or.inr ⟨lab, List.mem_cons_of_mem _ h1, h2⟩
      · rw [if_neg h]
        exact ih _ x e
theorem labelsGo_last (l : List UInt8) (y : UInt8) (hy : (y.toNat : Int) = 46) : ∀ cur, [] ∈ labelsGo cur (l ++ [y]) := by
  induction l with
  | nil => intro cur; simp [labelsGo, hy]
  | cons x r ih =>
    intro cur
    rw [List.cons_append, labelsGo]
    split
    · exact List.mem_cons_of_mem _ (ih _)
    · exact ih _
theorem allName_mem : ∀ (l : List UInt8), allName l = true → ∀ x ∈ l, nameCh x = true
  | [], _, _, hx => by cases hx
  | y :: r, h, x, hx => by
    rw [allName] at h
    split at h
    · rename_i hy
      rcases List.mem_cons.1 hx with e | e
      · subst e; exact hy
      · exact allName_mem r h x e
    · cases h
theorem nameCh_host (x : UInt8) (h : nameCh x = true) : hostCh x ∧ (x.toNat : Int) ≠ 46 := by
  have key : ∀ n : Fin 256, nameCh (UInt8.ofNat n.val) = true → hostCh (UInt8.ofNat n.val) ∧ ((UInt8.ofNat n.val).toNat : Int) ≠ 46 := by unfold hostCh; decide +kernel
  have := key ⟨x.toNat, x.toNat_lt⟩
  simpa using this (by simpa using h)
theorem nameLab_split {l : List UInt8} (h : nameLab l = true) : l ≠ [] ∧ allName l = true := by
  unfold nameLab at h
  rw [Bool.and_eq_true] at h
  exact ⟨(of_decide_eq_true h.1).1, h.2⟩
theorem name_signs {l : List UInt8} (h : isNameB l = true) : HostSigns l ∧ ((l.getD 0 0).toNat : Int) ≠ 46 := by
  have hall : ∀ lab ∈ labels l, nameLab lab = true := List.all_eq_true.1 h
  have hne : l ≠ [] := by
    rintro rfl
    exact (nameLab_split (hall [] (by simp [labels, labelsGo]))).1 rfl
  have hch : ∀ x ∈ l, hostCh x := by
    intro x hx
    rcases labelsGo_mem l [] x hx with e | ⟨lab, h1, h2⟩
    · unfold hostCh; omega
    · exact (nameCh_host x (allName_mem lab (nameLab_split (hall lab h1)).2 x h2)).1
  refine ⟨⟨hne, hch, ?_⟩, ?_⟩
  · intro e
    have hl : l = l.dropLast ++ [l.getD (l.length - 1) 0] := by
      have hp : 0 < l.length := List.length_pos_iff.2 hne
      have : l.getLast hne = l.getD (l.length - 1) 0 := by rw [List.getLast_eq_getElem, List.getD_eq_getElem?_getD, List.getElem?_eq_getElem (by omega)]; rfl
      rw [← this]
      exact (List.dropLast_concat_getLast hne).symm
    have : [] ∈ labels l := by rw [hl]; exact labelsGo_last _ _ e []
    exact (nameLab_split (hall [] this)).1 rfl
  · intro e
    match l, hne with
    | x :: r, _ =>
      have : [] ∈ labels (x :: r) := by
        rw [labels, labelsGo, if_pos (by simpa using e)]; exact List.mem_cons_self
      exact (nameLab_split (hall [] this)).1 rfl
theorem isHostB_name {l : List UInt8} (h : isHostB l = true) : isNameB l = true := by
  unfold isHostB at h
  rw [Bool.and_eq_true, Bool.and_eq_true] at h
  exact h.1.1
theorem host_signs {l : List UInt8} (h : isHostB l = true) : HostSigns l ∧ ((l.getD 0 0).toNat : Int) ≠ 46 := name_signs (isHostB_name h)
/-- The first place of a byte cuts a list. -/
theorem idx_cut (n : Int) (l : List UInt8) (h : idx n l ≠ -1) : ∃ a x b, l = a ++ x :: b ∧ (x.toNat : Int) = n ∧ (∀ y ∈ a, (y.toNat : Int) ≠ n) ∧ idx n l = a.length := by
  have key : ∀ (l : List UInt8) (k : Nat), idxGo n k l ≠ -1 → ∃ a x b, l = a ++ x :: b ∧ (x.toNat : Int) = n ∧ (∀ y ∈ a, (y.toNat : Int) ≠ n) ∧ idxGo n k l = (k : Int) + a.length := by
    intro l
    induction l with
    | nil => intro k h; exact absurd rfl h
    | cons x r ih =>
      intro k h
      rw [idxGo] at h ⊢
      by_cases hx : (x.toNat : Int) = n
      · exact ⟨[], x, r, rfl, hx, by simp, by rw [if_pos hx]; simp⟩
      · rw [if_neg hx] at h ⊢
        obtain ⟨a, y, b, e1, e2, e3, e4⟩ := ih _ h
        refine ⟨x :: a, y, b, by rw [e1]; rfl, e2, ?_, by rw [e4]; simp; omega⟩
        intro z hz
        rcases List.mem_cons.1 hz with e | e
        · subst e; exact hx
        · exact e3 z e
  obtain ⟨a, x, b, h1, h2, h3, h4⟩ := key l 0 h
  exact ⟨a, x, b, h1, h2, h3, by rw [idx, h4]; simp⟩
theorem idx_at {n : Int} {a b : List UInt8} {x : UInt8} (hx : (x.toNat : Int) = n) (ha : ∀ y ∈ a, (y.toNat : Int) ≠ n) : idx n (a ++ x :: b) = a.length := by
  have key : ∀ (a : List UInt8) (k : Nat), (∀ y ∈ a, (y.toNat : Int) ≠ n) → idxGo n k (a ++ x :: b) = (k : Int) + a.length := by
    intro a
    induction a with
    | nil => intro k _; rw [List.nil_append, idxGo, if_pos hx]; simp
    | cons y r ih =>
      intro k h
      rw [List.cons_append, idxGo, if_neg (h y List.mem_cons_self), ih _ fun z hz => h z (List.mem_cons_of_mem _ hz)]
      simp; omega
  rw [idx, key a 0 ha]; simp
theorem split_at {a b : List UInt8} {x : UInt8} (hx : (x.toNat : Int) = 58) (ha : ∀ y ∈ a, (y.toNat : Int) ≠ 58) : splitB (a ++ x :: b) = (a, b) := by
  have h := idx_at (b := b) hx ha
  unfold splitB
  rw [h, if_neg (by omega)]
  simp
theorem split_none {l : List UInt8} (h : ∀ y ∈ l, (y.toNat : Int) ≠ 58) : splitB l = (l, [48]) := by
  unfold splitB
  rw [idx_none h, if_pos rfl]
theorem allDig_mem : ∀ (l : List UInt8), allDig l = true → ∀ x ∈ l, digCh x
  | [], _, _, hx => by cases hx
  | y :: r, h, x, hx => by
    rw [allDig] at h
    split at h
    · cases h
    · rename_i hy
      rcases List.mem_cons.1 hx with e | e
      · subst e; unfold digCh; omega
      · exact allDig_mem r h x e
theorem byte_of {x : UInt8} (n : Nat) (h : (x.toNat : Int) = n) (hn : n < 256) : x = UInt8.ofNat n := by
  have : x.toNat = n := by omega
  subst this
  simp
theorem split_hostPort {l : List UInt8} (h1 : isHostB (splitB l).1 = true) (h2 : portOK (splitB l).2 = true) : HostPort l (splitB l).1 := by
  refine ⟨(host_signs h1).1, ?_⟩
  by_cases h : idx 58 l = -1
  · left; unfold splitB; rw [if_pos h]
  · obtain ⟨a, x, b, e, hx, ha, hi⟩ := idx_cut 58 l h
    right
    rw [e, split_at hx ha] at h2 ⊢
    refine ⟨b, by rw [byte_of 58 hx (by omega)]; rfl, ?_⟩
    unfold portOK digB at h2
    rw [Bool.and_eq_true, Bool.and_eq_true] at h2
    exact allDig_mem b h2.1.1
theorem plain_domOK {listed : Bool} {l : List UInt8} (h : plainDomB listed l = true) : DomOK l := by
  unfold plainDomB at h
  by_cases h0 : l = []
  · exact Or.inl h0
  · right
    rw [if_neg h0] at h
    have hp : 0 < l.length := List.length_pos_iff.2 h0
    have tail : ∀ m, domTail listed m = true → HostSigns m ∧ ((m.getD 0 0).toNat : Int) ≠ 46 := fun m hm => by
      unfold domTail at hm
      rw [Bool.and_eq_true, Bool.and_eq_true] at hm
      exact host_signs hm.1.2
    by_cases h1 : ((l.getD 0 0).toNat : Int) = 46
    · rw [if_pos h1] at h
      split at h
      · cases h
      · have := tail _ h
        rw [trimPre, if_pos ⟨hp, h1⟩]
        exact this
    · rw [if_neg h1] at h
      have := tail _ h
      rw [trimPre, if_neg (fun e => h1 e.2)]
      exact this
theorem lowC_host (x : UInt8) (h : hostCh x) : hostCh (lowC x) := by
  have key : ∀ n : Fin 256, hostCh (UInt8.ofNat n.val) → hostCh (lowC (UInt8.ofNat n.val)) := by unfold hostCh; decide +kernel
  have := key ⟨x.toNat, x.toNat_lt⟩
  simpa using this (by simpa using h)
theorem HostSigns.low {h : List UInt8} (H : HostSigns h) : HostSigns (low h) := by
  have hl : 0 < h.length := List.length_pos_iff.2 H.ne
  refine ⟨fun e => H.ne (by simpa [Go.Proofs.YtcofblepdfjhjaaGreatDoor.low] using e), fun x hx => ?_, ?_⟩
  · obtain ⟨y, hy, rfl⟩ := List.mem_map.1 hx
    exact lowC_host y (H.ch y hy)
  · rw [low_len, low_getD _ _ (by omega)]
    exact fun e => H.last ((lowC_dot _).1 e)
theorem host_len {l h : List UInt8} (H : HostPort l h) : h.length ≤ l.length := by
  rcases H.2 with e | ⟨p, e, _⟩ <;> rw [e] <;> simp
theorem defPath_fit (l : List UInt8) : (defPath l).length ≤ max l.length 1 ∧ 0 < (defPath l).length := by
  unfold defPath
  split
  · simp; omega
  · rename_i h1
    split
    · simp; omega
    · rename_i h2
      have hl : 0 < l.length := by omega
      have hx : ((l.getD 0 0).toNat : Int) = 47 := by omega
      have hb := lastIdx_le 47 l l.length
      rw [show lastGo 47 l l.length = lastIdx 47 l from rfl] at hb
      have hne : lastIdx 47 l ≠ -1 := by
        intro e
        rcases last_cases 47 l with hc | ⟨a, x, b, e', hx', hbb⟩
        · refine hc (l.getD 0 0) ?_ hx
          rw [List.getD_eq_getElem?_getD, List.getElem?_eq_getElem hl]
          exact List.getElem_mem hl
        · rw [e', lastIdx_at hx' hbb] at e; omega
      rw [List.length_take]
      omega
end Go.Proofs.YtcofblepdfjhjaaGreatDoor
