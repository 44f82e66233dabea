/- Plain law: what other hosts set does not matter. -/
import Derived.Test.YtcofblepdfjhjaaGreatDoorLawsC
namespace Go.Proofs.YtcofblepdfjhjaaGreatDoor
/-- Two entries that are the same but for their numbers. -/
def sameE (x y : Ent) : Prop := { x with seq := 0 } = { y with seq := 0 }
theorem sameE.by {α : Type} {x y : Ent} (f : Ent → α) (h : sameE x y) : f { x with seq := 0 } = f { y with seq := 0 } := by unfold sameE at h; rw [h]
theorem sameE.path {x y : Ent} (h : sameE x y) : x.path = y.path := sameE.by (fun e => e.path) h
theorem sameE.cre {x y : Ent} (h : sameE x y) : x.cre = y.cre := sameE.by (fun e => e.cre) h
theorem sameE.pair {x y : Ent} (h : sameE x y) : pairOf x = pairOf y := sameE.by (fun e => pairOf e) h
theorem sameE.alive {x y : Ent} (h : sameE x y) (t : Int) : aliveE t x = aliveE t y := sameE.by (fun e => aliveE t e) h
theorem sameE.send {x y : Ent} (h : sameE x y) (b : Bool) (ho pa : ByteArray) : sendB x b ho pa = sendB y b ho pa := sameE.by (fun e => sendB e b ho pa) h
theorem sameE.refl (x : Ent) : sameE x x := rfl
/-- Sorted lists of twins. -/
theorem twin_lists {R : Ent → Ent → Prop} (hp : ∀ x y, R x y → pairOf x = pairOf y) (hlt : ∀ x x' y y', R x y → R x' y' → (entLt x x' ↔ entLt y y')) : ∀ a b : List Ent, a.Pairwise entLt → b.Pairwise entLt → (∀ x ∈ a, ∃ y ∈ b, R x y) → (∀ y ∈ b, ∃ x ∈ a, R x y) → a.map pairOf = b.map pairOf
  | [], [], _, _, _, _ => rfl
  | [], y :: s, _, _, _, h => by obtain ⟨x, hx, _⟩ := h y List.mem_cons_self; cases hx
  | x :: r, [], _, _, h, _ => by obtain ⟨y, hy, _⟩ := h x List.mem_cons_self; cases hy
  | x :: r, y :: s, ha, hb, h1, h2 => by
    obtain ⟨ha1, ha2⟩ := List.pairwise_cons.1 ha
    obtain ⟨hb1, hb2⟩ := List.pairwise_cons.1 hb
    have hxy : R x y := by
      obtain ⟨y', hy', r1⟩ := h1 x List.mem_cons_self
      obtain ⟨x', hx', r2⟩ := h2 y List.mem_cons_self
      rcases List.mem_cons.1 hy' with e | e
      · subst e; exact r1
      · have := (hlt x' x y y' r2 r1).2 (hb1 y' e)
        rcases List.mem_cons.1 hx' with e' | e'
        · subst e'; exact absurd this (entLt_irrefl _)
        · exact absurd (entLt_trans this (ha1 x' e')) (entLt_irrefl _)
    rw [List.map_cons, List.map_cons, hp x y hxy, twin_lists hp hlt r s ha2 hb2 ?_ ?_]
    · intro z hz
      obtain ⟨u, hu, r1⟩ := h1 z (List.mem_cons_of_mem _ hz)
      rcases List.mem_cons.1 hu with e | e
      · subst e; exact absurd ((hlt x z u u hxy r1).1 (ha1 z hz)) (entLt_irrefl _)
      · exact ⟨u, e, r1⟩
    · intro u hu
      obtain ⟨z, hz, r1⟩ := h2 u (List.mem_cons_of_mem _ hu)
      rcases List.mem_cons.1 hz with e | e
      · subst e; exact absurd ((hlt z z y u hxy r1).2 (hb1 u hu)) (entLt_irrefl _)
      · exact ⟨z, e, r1⟩
/-- Two jars' entries under a key: the same but for the numbers, in the same order. -/
structure Twin (S : ByteArray → Option Ent) (n : Nat) (S' : ByteArray → Option Ent) (n' : Nat) : Prop where
  none : ∀ id, S id = none ↔ S' id = none
  same : ∀ id e e', S id = some e → S' id = some e' → sameE e e' ∧ e.seq < n ∧ e'.seq < n'
  ord : ∀ i j x y x' y', S i = some x → S j = some y → S' i = some x' → S' j = some y' → (x.seq < y.seq ↔ x'.seq < y'.seq)
theorem Twin.new : Twin (fun _ => Option.none) 0 (fun _ => Option.none) 0 := ⟨fun _ => Iff.rfl, fun _ _ _ h => (by cases h), fun _ _ _ _ _ _ h => (by cases h)⟩
section
variable {S S' : ByteArray → Option Ent} {n n' : Nat}
theorem Twin.mono (h : Twin S n S' n') {m m' : Nat} (hm : n ≤ m) (hm' : n' ≤ m') : Twin S m S' m' :=
  ⟨h.none, fun id e e' h1 h2 => ⟨(h.same id e e' h1 h2).1, Nat.lt_of_lt_of_le (h.same id e e' h1 h2).2.1 hm, Nat.lt_of_lt_of_le (h.same id e e' h1 h2).2.2 hm'⟩, h.ord⟩
theorem Twin.both (h : Twin S n S' n') (id : ByteArray) : (S id = Option.none ∧ S' id = Option.none) ∨ ∃ e e', S id = some e ∧ S' id = some e' ∧ sameE e e' := by
  cases hS : S id with
  | none => exact Or.inl ⟨rfl, (h.none id).1 hS⟩
  | some e =>
    cases hS' : S' id with
    | none => rw [(h.none id).2 hS'] at hS; cases hS
    | some e' => exact Or.inr ⟨e, e', rfl, rfl, (h.same id e e' hS hS').1⟩
/-- Entries taken out alike. -/
theorem Twin.sub (h : Twin S n S' n') {U U' : ByteArray → Option Ent} (hn : ∀ id, U id = Option.none ↔ U' id = Option.none) (h1 : ∀ id e, U id = some e → S id = some e) (h2 : ∀ id e, U' id = some e → S' id = some e) : Twin U n U' n' :=
  ⟨hn, fun id e e' g g' => h.same id e e' (h1 id e g) (h2 id e' g'), fun i j x y x' y' g1 g2 g3 g4 => h.ord i j x y x' y' (h1 _ _ g1) (h1 _ _ g2) (h2 _ _ g3) (h2 _ _ g4)⟩
theorem purge_some {t : Int} {id : ByteArray} {e : Ent} : purge t S id = some e ↔ S id = some e ∧ aliveE t e = true := by
  unfold purge YtcofblepdfjhjaaGreatDoor.keep
  constructor
  · intro he
    split at he
    · rename_i x hx
      split at he
      · rename_i ha; cases he; exact ⟨hx, ha⟩
      · cases he
    · cases he
  · rintro ⟨h1, h2⟩
    rw [h1]; simp [h2]
theorem Twin.purge (h : Twin S n S' n') (t : Int) : Twin (YtcofblepdfjhjaaGreatDoor.purge t S) n (YtcofblepdfjhjaaGreatDoor.purge t S') n' := by
  refine h.sub (fun id => ?_) (fun id e he => (purge_some.1 he).1) (fun id e he => (purge_some.1 he).1)
  rcases h.both id with ⟨h1, h2⟩ | ⟨e, e', h1, h2, h3⟩
  · unfold YtcofblepdfjhjaaGreatDoor.purge YtcofblepdfjhjaaGreatDoor.keep; rw [h1, h2]
  · unfold YtcofblepdfjhjaaGreatDoor.purge YtcofblepdfjhjaaGreatDoor.keep; rw [h1, h2]; simp only [h3.alive t]
    split <;> simp
theorem Twin.del (h : Twin S n S' n') (id : ByteArray) : Twin (updS S id Option.none) n (updS S' id Option.none) n' := by
  refine h.sub (fun k => ?_) (fun k e he => ?_) (fun k e he => ?_)
  · unfold updS
    split
    · exact Iff.rfl
    · exact h.none k
  · unfold updS at he; split at he
    · cases he
    · exact he
  · unfold updS at he; split at he
    · cases he
    · exact he
theorem Twin.put (h : Twin S n S' n') (id : ByteArray) (e e' : Ent) (hse : sameE e e')
    (hs : (∃ x x', S id = some x ∧ S' id = some x' ∧ e.seq = x.seq ∧ e'.seq = x'.seq) ∨ (e.seq = n ∧ e'.seq = n')) : Twin (updS S id (some e)) (n + 1) (updS S' id (some e')) (n' + 1) := by
  refine ⟨fun k => ?_, fun k u u' g g' => ?_, fun i j x y x' y' g1 g2 g3 g4 => ?_⟩
  · unfold updS; split
    · simp
    · exact h.none k
  · unfold updS at g g'
    split at g
    · rename_i hk
      rw [if_pos hk] at g'
      cases g; cases g'
      refine ⟨hse, ?_⟩
      rcases hs with ⟨x, x', a1, a2, a3, a4⟩ | ⟨a1, a2⟩
      · obtain ⟨_, b1, b2⟩ := h.same id x x' a1 a2; omega
      · omega
    · rename_i hk
      rw [if_neg hk] at g'
      obtain ⟨b0, b1, b2⟩ := h.same k u u' g g'
      exact ⟨b0, by omega, by omega⟩
  · unfold updS at g1 g2 g3 g4
    have hb : ∀ k (z z' : Ent), S k = some z → S' k = some z' → z.seq < n ∧ z'.seq < n' := fun k z z' a b => (h.same k z z' a b).2
    by_cases hi : i = id
    · rw [if_pos hi] at g1 g3
      cases g1; cases g3
      by_cases hj : j = id
      · rw [if_pos hj] at g2 g4
        cases g2; cases g4; omega
      · rw [if_neg hj] at g2 g4
        rcases hs with ⟨x, x', a1, a2, a3, a4⟩ | ⟨a1, a2⟩
        · rw [a3, a4]; exact h.ord id j x y x' y' a1 g2 a2 g4
        · have := hb j y y' g2 g4; omega
    · rw [if_neg hi] at g1 g3
      by_cases hj : j = id
      · rw [if_pos hj] at g2 g4
        cases g2; cases g4
        rcases hs with ⟨u, u', a1, a2, a3, a4⟩ | ⟨a1, a2⟩
        · rw [a3, a4]; exact h.ord i id x u x' u' g1 a1 g3 a2
        · have := hb i x x' g1 g3; omega
      · rw [if_neg hj] at g2 g4
        exact h.ord i j x y x' y' g1 g2 g3 g4
theorem Twin.one (h : Twin S n S' n') (now : Int) (r : Option (Ent × Bool)) : Twin (setOne now r (S, n)).1 (setOne now r (S, n)).2 (setOne now r (S', n')).1 (setOne now r (S', n')).2 := by
  match r with
  | Option.none => exact h
  | some (e, true) => exact h.del _
  | some (e, false) =>
    rcases h.both (entId e) with ⟨h1, h2⟩ | ⟨x, x', h1, h2, h3⟩
    · simp only [setOne, h1, h2]
      exact h.put _ _ _ rfl (Or.inr ⟨rfl, rfl⟩)
    · simp only [setOne, h1, h2]
      have g := h.put (entId e) { e with cre := x.cre, seq := x.seq } { e with cre := x'.cre, seq := x'.seq } (by unfold sameE; simp [h3.cre]) (Or.inl ⟨x, x', h1, h2, rfl, rfl⟩)
      have hx := h.same _ x x' h1 h2
      refine ⟨g.none, fun k u u' a b => ?_, g.ord⟩
      refine ⟨(g.same k u u' a b).1, ?_⟩
      unfold updS at a b
      by_cases hk : k = entId e
      · rw [if_pos hk] at a b
        cases a; cases b
        exact hx.2
      · rw [if_neg hk] at a b
        exact (h.same k u u' a b).2
theorem Twin.list {psl : Option (List ByteArray)} {host defp : ByteArray} {now : Int} : ∀ (cs : List PCookie) {S S' : ByteArray → Option Ent} {n n' : Nat}, Twin S n S' n' →
    Twin (setList psl host defp now cs (S, n)).1 (setList psl host defp now cs (S, n)).2 (setList psl host defp now cs (S', n')).1 (setList psl host defp now cs (S', n')).2
  | [], _, _, _, _, h => h
  | c :: r, _, _, _, _, h => Twin.list r (h.one now (newEnt psl host defp now c))
theorem Twin.sent (h : Twin S n S' n') {t : Int} {b : Bool} {ho pa : ByteArray} {L L' : List Ent} (hL : Sent S t b ho pa L) (hL' : Sent S' t b ho pa L') : L.map pairOf = L'.map pairOf := by
  refine twin_lists (R := fun x y => ∃ id, S id = some x ∧ S' id = some y) ?_ ?_ L L' hL.sorted hL'.sorted ?_ ?_
  · rintro x y ⟨id, h1, h2⟩
    exact (h.same id x y h1 h2).1.pair
  · rintro x x' y y' ⟨i, h1, h2⟩ ⟨j, h3, h4⟩
    have s1 := (h.same i x y h1 h2).1
    have s2 := (h.same j x' y' h3 h4).1
    have s3 := h.ord i j x x' y y' h1 h3 h2 h4
    unfold entLt
    rw [s1.path, s1.cre, s2.path, s2.cre, s3]
  · intro x hx
    obtain ⟨id, h1, h2, h3⟩ := (hL.mem x).1 hx
    rcases h.both id with ⟨e, _⟩ | ⟨u, u', e1, e2, e3⟩
    · rw [h1] at e; cases e
    · rw [h1] at e1; cases e1
      exact ⟨u', (hL'.mem u').2 ⟨id, e2, by rw [← e3.alive]; exact h2, by rw [← e3.send]; exact h3⟩, id, h1, e2⟩
  · intro y hy
    obtain ⟨id, h1, h2, h3⟩ := (hL'.mem y).1 hy
    rcases h.both id with ⟨_, e⟩ | ⟨u, u', e1, e2, e3⟩
    · rw [h1] at e; cases e
    · rw [h1] at e2; cases e2
      exact ⟨u, (hL.mem u).2 ⟨id, e1, by rw [e3.alive]; exact h2, by rw [e3.send]; exact h3⟩, id, e1, h1⟩
end
section
variable {psl : Option (List ByteArray)}
theorem setJ_key {s : PStep} {J : ByteArray → ByteArray → Option Ent} {n : Nat} {K : ByteArray} (h : K ≠ keyOf psl (hostOf s)) : setJ psl s J n K = J K := by
  unfold setJ; split
  · rfl
  · exact updJ_ne _ _ h
theorem askJ_key {s : PStep} {J : ByteArray → ByteArray → Option Ent} {K : ByteArray} (h : K ≠ keyOf psl (hostOf s)) : askJ psl s J K = J K := by
  unfold askJ; split
  · rfl
  · exact updJ_ne _ _ h
theorem setList_n {host defp : ByteArray} {now : Int} : ∀ (cs : List PCookie) (S : ByteArray → Option Ent) (n : Nat), n ≤ (setList psl host defp now cs (S, n)).2
  | [], _, _ => Nat.le_refl _
  | c :: r, S, n => by
    have h1 := setOne_n now (newEnt psl host defp now c) (S, n)
    have h2 := setList_n (host := host) (defp := defp) (now := now) r (setOne now (newEnt psl host defp now c) (S, n)).1 (setOne now (newEnt psl host defp now c) (S, n)).2
    exact Nat.le_trans h1.1 h2
theorem setN_le {s : PStep} {J : ByteArray → ByteArray → Option Ent} {n : Nat} : n ≤ setN psl s J n := by
  unfold setN; split
  · exact Nat.le_refl _
  · exact setList_n _ _ _
/-- Steps of hosts with other keys are left out. -/
theorem twin_run {K : ByteArray} (q : PStep → Bool) : ∀ (ss : List PStep) {J J' : ByteArray → ByteArray → Option Ent} {n n' : Nat}, (∀ s ∈ ss, q s = false → K ≠ keyOf psl (hostOf s)) → Twin (J K) n (J' K) n' →
    Twin ((endJ psl J n ss).1 K) (endJ psl J n ss).2 ((endJ psl J' n' (ss.filter q)).1 K) (endJ psl J' n' (ss.filter q)).2
  | [], _, _, _, _, _, h => h
  | s :: r, J, J', n, n', hq, h => by
    have hq' : ∀ x ∈ r, q x = false → K ≠ keyOf psl (hostOf x) := fun x hx => hq x (List.mem_cons_of_mem _ hx)
    cases hqs : q s
    · have hk := hq s List.mem_cons_self hqs
      rw [List.filter_cons_of_neg (by rw [hqs]; simp), endJ]
      split
      · exact twin_run q r hq' (by rw [setJ_key hk]; exact h.mono setN_le (Nat.le_refl _))
      · exact twin_run q r hq' (by rw [askJ_key hk]; exact h)
    · rw [List.filter_cons_of_pos hqs, endJ, endJ]
      split
      · refine twin_run q r hq' ?_
        by_cases hk : K = keyOf psl (hostOf s)
        · unfold setJ setN
          split
          · exact h
          · unfold setS
            rw [← hk, updJ_at, updJ_at]
            exact h.list s.cookies
        · rw [setJ_key hk, setJ_key hk]
          exact h.mono setN_le setN_le
      · refine twin_run q r hq' ?_
        by_cases hk : K = keyOf psl (hostOf s)
        · unfold askJ
          split
          · exact h
          · rw [← hk, updJ_at, updJ_at]; exact h.purge _
        · rw [askJ_key hk, askJ_key hk]; exact h
theorem law_apart {q : PStep → Bool} {ss : List PStep} {a : PStep} {o1 o2 : List (List Ent)} (ha : a.set = false) (hq : ∀ s ∈ ss, q s = false → keyOf psl (hostOf a) ≠ keyOf psl (hostOf s))
    (r1 : RunRel psl noJar 0 (ss ++ [a]) o1) (r2 : RunRel psl noJar 0 (ss.filter q ++ [a]) o2) : ∃ p1 p2 L1 L2, o1 = p1 ++ [L1] ∧ o2 = p2 ++ [L2] ∧ L1.map pairOf = L2.map pairOf := by
  obtain ⟨p1, L1, rfl, g1⟩ := r1.last ha
  obtain ⟨p2, L2, rfl, g2⟩ := r2.last ha
  refine ⟨p1, p2, L1, L2, rfl, rfl, ?_⟩
  have ht := twin_run (psl := psl) q ss hq (J := noJar) (J' := noJar) (n := 0) (n' := 0) Twin.new
  cases hw : isWeb a.scheme
  · unfold AskL at g1 g2
    rw [if_pos hw] at g1 g2
    rw [g1, g2]
  · exact ht.sent (g1.web hw) (g2.web hw)
end
end Go.Proofs.YtcofblepdfjhjaaGreatDoor
