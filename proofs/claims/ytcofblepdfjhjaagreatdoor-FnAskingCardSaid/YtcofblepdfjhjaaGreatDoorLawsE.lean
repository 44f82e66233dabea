/- Plain law: to ask does not change what is sent but for its order. -/
import Derived.Test.YtcofblepdfjhjaaGreatDoorLawsD
namespace Go.Proofs.YtcofblepdfjhjaaGreatDoor
/-- Two entries that are the same but for when they were made. -/
def strip (x : Ent) : Ent := { x with cre := 0, seq := 0 }
theorem strip_alive (x : Ent) (t : Int) : aliveE t (strip x) = aliveE t x := rfl
theorem strip_send (x : Ent) (b : Bool) (ho pa : ByteArray) : sendB (strip x) b ho pa = sendB x b ho pa := rfl
theorem strip_pair (x : Ent) : pairOf (strip x) = pairOf x := rfl
/-- At time t and later two keys' entries are alike. -/
def Like (t : Int) (S S' : ByteArray → Option Ent) : Prop := ∀ id, (keep t (S id)).map strip = (keep t (S' id)).map strip
def Own (S : ByteArray → Option Ent) : Prop := ∀ id e, S id = some e → id = entId e
theorem keep_keep {t u : Int} (h : t ≤ u) (o : Option Ent) : keep u (keep t o) = keep u o := by
  cases o with
  | none => rfl
  | some e =>
    unfold keep
    simp only []
    by_cases h1 : aliveE t e = true
    · rw [if_pos h1]
    · rw [if_neg h1]
      have : ¬ aliveE u e = true := by
        intro h2
        apply h1
        unfold aliveE at h2 ⊢
        simp only [Bool.or_eq_true, Bool.not_eq_true', decide_eq_true_eq] at h2 ⊢
        rcases h2 with h2 | h2
        · exact Or.inl h2
        · exact Or.inr (by omega)
      rw [if_neg this]
theorem keep_strip {t : Int} (o : Option Ent) : keep t (o.map strip) = (keep t o).map strip := by
  cases o with
  | none => rfl
  | some e =>
    show (if aliveE t (strip e) = true then some (strip e) else none) = (if aliveE t e = true then some e else none).map strip
    by_cases h : aliveE t e = true
    · have h' : aliveE t (strip e) = true := h
      rw [if_pos h, if_pos h']; rfl
    · have h' : ¬ aliveE t (strip e) = true := h
      rw [if_neg h, if_neg h']; rfl
theorem Like.later {t u : Int} {S S' : ByteArray → Option Ent} (h : Like t S S') (htu : t ≤ u) : Like u S S' := fun id => by
  rw [← keep_keep htu (S id), ← keep_keep htu (S' id), ← keep_strip (keep t (S id)), ← keep_strip (keep t (S' id)), h id]
theorem Like.refl (t : Int) (S : ByteArray → Option Ent) : Like t S S := fun _ => rfl
theorem Like.purge_left {t : Int} {S S' : ByteArray → Option Ent} (h : Like t S S') : Like t (purge t S) S' := fun id => by
  show (keep t (keep t (S id))).map strip = _
  rw [keep_keep (Int.le_refl t)]; exact h id
theorem Like.upd {t : Int} {S S' : ByteArray → Option Ent} (h : Like t S S') (id : ByteArray) {o o' : Option Ent} (ho : o.map strip = o'.map strip) : Like t (updS S id o) (updS S' id o') := fun k => by
  unfold updS
  split
  · rw [← keep_strip, ← keep_strip, ho]
  · exact h k
theorem Like.one {t now : Int} {S S' : ByteArray → Option Ent} {n n' : Nat} (h : Like t S S') (r : Option (Ent × Bool)) : Like t (setOne now r (S, n)).1 (setOne now r (S', n')).1 := by
  match r with
  | none => exact h
  | some (e, true) => exact h.upd _ rfl
  | some (e, false) =>
    have key : ∀ (S : ByteArray → Option Ent) (n : Nat), ∃ c q, (setOne now (some (e, false)) (S, n)).1 = updS S (entId e) (some { e with cre := c, seq := q }) := by
      intro S n
      simp only [setOne]
      split
      · exact ⟨_, _, rfl⟩
      · exact ⟨_, _, rfl⟩
    obtain ⟨c, q, e1⟩ := key S n
    obtain ⟨c', q', e2⟩ := key S' n'
    rw [e1, e2]
    exact h.upd _ rfl
theorem Own.upd {S : ByteArray → Option Ent} (h : Own S) {id : ByteArray} {o : Option Ent} (ho : ∀ e, o = some e → id = entId e) : Own (updS S id o) := fun k e he => by
  unfold updS at he
  split at he
  · rename_i hk; rw [hk]; exact ho e he
  · exact h k e he
theorem Own.one {now : Int} {S : ByteArray → Option Ent} {n : Nat} (h : Own S) (r : Option (Ent × Bool)) : Own (setOne now r (S, n)).1 := by
  match r with
  | none => exact h
  | some (e, true) => exact h.upd (fun _ h => by cases h)
  | some (e, false) =>
    simp only [setOne]
    split
    · exact h.upd (fun x hx => by cases hx; rfl)
    · exact h.upd (fun x hx => by cases hx; rfl)
theorem Own.purge {t : Int} {S : ByteArray → Option Ent} (h : Own S) : Own (purge t S) := fun id e he => h id e (purge_some.1 he).1
section
variable {psl : Option (List ByteArray)}
theorem Like.list {host defp : ByteArray} {t now : Int} : ∀ (cs : List PCookie) {S S' : ByteArray → Option Ent} {n n' : Nat}, Like t S S' → Like t (setList psl host defp now cs (S, n)).1 (setList psl host defp now cs (S', n')).1
  | [], _, _, _, _, h => h
  | c :: r, _, _, _, _, h => Like.list r (h.one (newEnt psl host defp now c))
theorem Own.list {host defp : ByteArray} {now : Int} : ∀ (cs : List PCookie) {S : ByteArray → Option Ent} {n : Nat}, Own S → Own (setList psl host defp now cs (S, n)).1
  | [], _, _, h => h
  | c :: r, _, _, h => Own.list r (h.one (newEnt psl host defp now c))
theorem own_set {s : PStep} {J : ByteArray → ByteArray → Option Ent} {n : Nat} (h : ∀ k, Own (J k)) (k : ByteArray) : Own (setJ psl s J n k) := by
  unfold setJ; split
  · exact h k
  · by_cases hk : k = keyOf psl (hostOf s)
    · rw [updJ, if_pos hk]; exact Own.list _ (h _)
    · rw [updJ_ne _ _ hk]; exact h k
theorem own_ask {s : PStep} {J : ByteArray → ByteArray → Option Ent} (h : ∀ k, Own (J k)) (k : ByteArray) : Own (askJ psl s J k) := by
  unfold askJ; split
  · exact h k
  · by_cases hk : k = keyOf psl (hostOf s)
    · rw [updJ, if_pos hk]; exact (h _).purge
    · rw [updJ_ne _ _ hk]; exact h k
theorem like_set {s : PStep} {t : Int} {J J' : ByteArray → ByteArray → Option Ent} {n n' : Nat} (h : ∀ k, Like t (J k) (J' k)) (k : ByteArray) : Like t (setJ psl s J n k) (setJ psl s J' n' k) := by
  unfold setJ; split
  · exact h k
  · by_cases hk : k = keyOf psl (hostOf s)
    · rw [updJ, if_pos hk, updJ, if_pos hk]; exact Like.list _ (h _)
    · rw [updJ_ne _ _ hk, updJ_ne _ _ hk]; exact h k
theorem like_ask {s : PStep} {J J' : ByteArray → ByteArray → Option Ent} (h : ∀ k, Like s.tm (J k) (J' k)) (k : ByteArray) : Like s.tm (askJ psl s J k) (J' k) := by
  unfold askJ; split
  · exact h k
  · by_cases hk : k = keyOf psl (hostOf s)
    · rw [updJ, if_pos hk, ← hk]; exact (h k).purge_left
    · rw [updJ_ne _ _ hk]; exact h k
/-- Steps' times don't go back. -/
def Timed (t : Int) : List PStep → Prop
  | [] => True
  | s :: r => t ≤ s.tm ∧ Timed s.tm r
theorem asking_run : ∀ (ss : List PStep) {J J' : ByteArray → ByteArray → Option Ent} {n n' : Nat} {t : Int} (a : PStep), Timed t (ss ++ [a]) → (∀ k, Like t (J k) (J' k)) → (∀ k, Own (J k)) → (∀ k, Own (J' k)) →
    (∀ k, Like a.tm ((endJ psl J n ss).1 k) ((endJ psl J' n' (ss.filter (·.set))).1 k)) ∧ (∀ k, Own ((endJ psl J n ss).1 k)) ∧ ∀ k, Own ((endJ psl J' n' (ss.filter (·.set))).1 k)
  | [], _, _, _, _, _, a, ht, h, h1, h2 => ⟨fun k => (h k).later ht.1, h1, h2⟩
  | s :: r, J, J', n, n', t, a, ht, h, h1, h2 => by
    obtain ⟨t1, t2⟩ := ht
    have h' : ∀ k, Like s.tm (J k) (J' k) := fun k => (h k).later t1
    cases hs : s.set
    · rw [List.filter_cons_of_neg (by rw [hs]; simp), endJ, if_neg (by rw [hs]; simp)]
      exact asking_run r a t2 (like_ask h') (own_ask h1) h2
    · rw [List.filter_cons_of_pos hs, endJ, endJ, if_pos hs, if_pos hs]
      exact asking_run r a t2 (like_set h') (own_set h1) (own_set h2)
theorem keep_some {t : Int} {o : Option Ent} {e : Ent} : keep t o = some e ↔ o = some e ∧ aliveE t e = true := by
  cases o with
  | none => simp [keep]
  | some x =>
    unfold keep
    simp only [Option.some.injEq]
    constructor
    · intro h
      split at h
      · rename_i ha; cases h; exact ⟨rfl, ha⟩
      · cases h
    · rintro ⟨rfl, h⟩
      rw [if_pos h]
theorem sent_perm {S S' : ByteArray → Option Ent} {t : Int} {b : Bool} {ho pa : ByteArray} {L L' : List Ent} (h : Like t S S') (o : Own S) (o' : Own S') (hL : Sent S t b ho pa L) (hL' : Sent S' t b ho pa L') : (L.map pairOf).Perm (L'.map pairOf) := by
  have nd : ∀ {S : ByteArray → Option Ent} {L : List Ent}, Own S → Sent S t b ho pa L → (L.map strip).Nodup := by
    intro S L o hL
    rw [List.nodup_iff_pairwise_ne, List.pairwise_map]
    refine List.Pairwise.imp_of_mem ?_ hL.sorted
    intro x y hx hy hxy e
    obtain ⟨i, hi, _⟩ := (hL.mem x).1 hx
    obtain ⟨j, hj, _⟩ := (hL.mem y).1 hy
    have h0 : entId (strip x) = entId (strip y) := by rw [e]
    have : entId x = entId y := h0
    rw [← o i x hi, ← o j y hj] at this
    subst this
    rw [hi] at hj
    cases hj
    exact entLt_irrefl x hxy
  have mem : ∀ {S S' : ByteArray → Option Ent} {L L' : List Ent}, Like t S S' → Sent S t b ho pa L → Sent S' t b ho pa L' → ∀ z, z ∈ L.map strip → z ∈ L'.map strip := by
    intro S S' L L' h hL hL' z hz
    obtain ⟨x, hx, rfl⟩ := List.mem_map.1 hz
    obtain ⟨i, h1, h2, h3⟩ := (hL.mem x).1 hx
    have hk := h i
    rw [keep_some.2 ⟨h1, h2⟩] at hk
    cases hy : keep t (S' i) with
    | none => rw [hy] at hk; cases hk
    | some y =>
      rw [hy] at hk
      have he : strip x = strip y := Option.some.inj hk
      obtain ⟨g1, g2⟩ := keep_some.1 hy
      rw [he]
      refine List.mem_map.2 ⟨y, (hL'.mem y).2 ⟨i, g1, g2, ?_⟩, rfl⟩
      rw [← strip_send, ← he]; exact h3
  have hp : (L.map strip).Perm (L'.map strip) := (List.perm_ext_iff_of_nodup (nd o hL) (nd o' hL')).2 fun z => ⟨mem h hL hL' z, mem (fun id => (h id).symm) hL' hL z⟩
  have := hp.map pairOf
  rw [List.map_map, List.map_map] at this
  exact this
theorem law_asking {ss : List PStep} {a : PStep} {o1 o2 : List (List Ent)} {t : Int} (ha : a.set = false) (ht : Timed t (ss ++ [a])) (r1 : RunRel psl noJar 0 (ss ++ [a]) o1) (r2 : RunRel psl noJar 0 (ss.filter (·.set) ++ [a]) o2) :
    ∃ p1 p2 L1 L2, o1 = p1 ++ [L1] ∧ o2 = p2 ++ [L2] ∧ (L1.map pairOf).Perm (L2.map pairOf) := by
  obtain ⟨p1, L1, rfl, g1⟩ := r1.last ha
  obtain ⟨p2, L2, rfl, g2⟩ := r2.last ha
  refine ⟨p1, p2, L1, L2, rfl, rfl, ?_⟩
  obtain ⟨e1, e2, e3⟩ := asking_run (psl := psl) ss (J := noJar) (J' := noJar) (n := 0) (n' := 0) a ht (fun k => Like.refl t _) (fun k id e h => by cases h) (fun k id e h => by cases h)
  cases hw : isWeb a.scheme
  · unfold AskL at g1 g2
    rw [if_pos hw] at g1 g2
    rw [g1, g2]
  · exact sent_perm (e1 _) (e2 _) (e3 _) (g1.web hw) (g2.web hw)
end
theorem timed_of {listed : Bool} : ∀ (ss : List PStep) (t : Int), stepsOK listed t ss = true → Timed t ss
  | [], _, _ => trivial
  | s :: r, t, h => by
    unfold stepsOK at h
    rw [Bool.and_eq_true, Bool.and_eq_true] at h
    refine ⟨?_, timed_of r s.tm h.2⟩
    have := h.1.1
    unfold stOK at this
    simp only [Bool.and_eq_true, decide_eq_true_eq] at this
    exact this.1.1.1.1.1
end Go.Proofs.YtcofblepdfjhjaaGreatDoor
