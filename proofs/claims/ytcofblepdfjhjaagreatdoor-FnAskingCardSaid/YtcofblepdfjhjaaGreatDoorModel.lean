/- What a jar does in steps: plain functions and relations, no program in sight. -/
import Derived.Test.YtcofblepdfjhjaaGreatDoorSet1
import Derived.Test.YtcofblepdfjhjaaGreatDoorOrd
import Derived.Test.YtcofblepdfjhjaaGreatDoorPlainD
namespace Go.Proofs.YtcofblepdfjhjaaGreatDoor
/-- An entry has not ended; entries without those that have. -/
def aliveE (now : Int) (e : Ent) : Bool := !e.persistent || decide (now < e.exp)
def keep (now : Int) (o : Option Ent) : Option Ent := match o with | some e => if aliveE now e = true then some e else none | none => none
def purge (now : Int) (S : ByteArray → Option Ent) : ByteArray → Option Ent := fun id => keep now (S id)
def hostOf (s : PStep) : ByteArray := str (hostB (lst s.host))
def defOf (s : PStep) : ByteArray := str (defPath (lst s.path))
def askPath (p : ByteArray) : ByteArray := if p.size = 0 then ⟨#[47]⟩ else p
def isHttps (sc : ByteArray) : Bool := decide (sc = ⟨#[104, 116, 116, 112, 115]⟩)
/-- The entries that are sent, in their order. -/
structure Sent (S : ByteArray → Option Ent) (now : Int) (https : Bool) (host path : ByteArray) (L : List Ent) : Prop where
  sorted : L.Pairwise entLt
  mem : ∀ e, e ∈ L ↔ ∃ id, S id = some e ∧ aliveE now e = true ∧ sendB e https host path = true
def setS (psl : Option (List ByteArray)) (s : PStep) (J : ByteArray → ByteArray → Option Ent) (n : Nat) : (ByteArray → Option Ent) × Nat := setList psl (hostOf s) (defOf s) s.tm s.cookies (J (keyOf psl (hostOf s)), n)
def setJ (psl : Option (List ByteArray)) (s : PStep) (J : ByteArray → ByteArray → Option Ent) (n : Nat) : ByteArray → ByteArray → Option Ent := if s.cookies = [] ∨ isWeb s.scheme = false then J else updJ J (keyOf psl (hostOf s)) (setS psl s J n).1
def setN (psl : Option (List ByteArray)) (s : PStep) (J : ByteArray → ByteArray → Option Ent) (n : Nat) : Nat := if s.cookies = [] ∨ isWeb s.scheme = false then n else (setS psl s J n).2
def askJ (psl : Option (List ByteArray)) (s : PStep) (J : ByteArray → ByteArray → Option Ent) : ByteArray → ByteArray → Option Ent := if isWeb s.scheme = false then J else updJ J (keyOf psl (hostOf s)) (purge s.tm (J (keyOf psl (hostOf s))))
def AskL (psl : Option (List ByteArray)) (J : ByteArray → ByteArray → Option Ent) (s : PStep) (L : List Ent) : Prop :=
  if isWeb s.scheme = false then L = [] else Sent (J (keyOf psl (hostOf s))) s.tm (isHttps s.scheme) (hostOf s) (askPath s.path) L
inductive RunRel (psl : Option (List ByteArray)) : (ByteArray → ByteArray → Option Ent) → Nat → List PStep → List (List Ent) → Prop
  | nil (J : ByteArray → ByteArray → Option Ent) (n : Nat) : RunRel psl J n [] []
  | set {J : ByteArray → ByteArray → Option Ent} {n : Nat} {s : PStep} {r : List PStep} {o : List (List Ent)} (h : s.set = true) (hr : RunRel psl (setJ psl s J n) (setN psl s J n) r o) : RunRel psl J n (s :: r) o
  | ask {J : ByteArray → ByteArray → Option Ent} {n : Nat} {s : PStep} {r : List PStep} {L : List Ent} {o : List (List Ent)} (h : s.set = false) (hL : AskL psl J s L) (hr : RunRel psl (askJ psl s J) n r o) : RunRel psl J n (s :: r) (L :: o)
def pairOf (e : Ent) : ByteArray × ByteArray := (e.name, e.value)
def pairsOf (o : List (List Ent)) : List (List (ByteArray × ByteArray)) := o.map fun l => l.map pairOf
/-- Strictly sorted lists with the same members are the same. -/
theorem sorted_unique : ∀ (a b : List Ent), a.Pairwise entLt → b.Pairwise entLt → (∀ e, e ∈ a ↔ e ∈ b) → a = b
  | [], [], _, _, _ => rfl
  | [], y :: s, _, _, h => absurd ((h y).2 List.mem_cons_self) (by simp)
  | x :: r, [], _, _, h => absurd ((h x).1 List.mem_cons_self) (by simp)
  | x :: r, y :: s, ha, hb, h => by
    obtain ⟨ha1, ha2⟩ := List.pairwise_cons.1 ha
    obtain ⟨hb1, hb2⟩ := List.pairwise_cons.1 hb
    have e : x = y := by
      rcases List.mem_cons.1 ((h x).1 List.mem_cons_self) with e | e
      · exact e
      · rcases List.mem_cons.1 ((h y).2 List.mem_cons_self) with e' | e'
        · exact e'.symm
        · exact absurd (entLt_trans (ha1 y e') (hb1 x e)) (entLt_irrefl x)
    subst e
    rw [sorted_unique r s ha2 hb2 fun e => ?_]
    constructor
    · intro he
      rcases List.mem_cons.1 ((h e).1 (List.mem_cons_of_mem _ he)) with e' | e'
      · subst e'; exact absurd (ha1 e he) (entLt_irrefl e)
      · exact e'
    · intro he
      rcases List.mem_cons.1 ((h e).2 (List.mem_cons_of_mem _ he)) with e' | e'
      · subst e'; exact absurd (hb1 e he) (entLt_irrefl e)
      · exact e'
theorem Sent.unique {S : ByteArray → Option Ent} {now : Int} {https : Bool} {host path : ByteArray} {L L' : List Ent} (h : Sent S now https host path L) (h' : Sent S now https host path L') : L = L' :=
  sorted_unique L L' h.sorted h'.sorted fun e => (h.mem e).trans (h'.mem e).symm
section
variable {psl : Option (List ByteArray)} {J : ByteArray → ByteArray → Option Ent} {n : Nat}
theorem AskL.unique {s : PStep} {L L' : List Ent} (h : AskL psl J s L) (h' : AskL psl J s L') : L = L' := by
  unfold AskL at h h'
  split at h
  · rename_i e; rw [if_pos e] at h'; rw [h, h']
  · rename_i e; rw [if_neg e] at h'; exact h.unique h'
theorem RunRel.unique {ss : List PStep} {o o' : List (List Ent)} (h : RunRel psl J n ss o) : RunRel psl J n ss o' → o = o' := by
  induction h generalizing o' with
  | nil J n => intro h'; cases h'; rfl
  | set hs _ ih =>
    intro h'
    cases h' with
    | set _ hr => exact ih hr
    | ask hs' _ _ => rw [hs] at hs'; cases hs'
  | ask hs hL _ ih =>
    intro h'
    cases h' with
    | set hs' _ => rw [hs] at hs'; cases hs'
    | ask _ hL' hr => rw [hL.unique hL', ih hr]
/-- What is right for a key's entries. -/
def SOK (S : ByteArray → Option Ent) (n : Nat) : Prop := ∀ id e, S id = some e → EntFit e ∧ 0 < e.path.size ∧ e.seq < n ∧ ∀ id' e', S id' = some e' → e'.seq = e.seq → id' = id
def JOK (J : ByteArray → ByteArray → Option Ent) (n : Nat) : Prop := ∀ k, SOK (J k) n
theorem JOK.new : JOK noJar 0 := fun k id e h => by cases h
theorem SOK.mono {S : ByteArray → Option Ent} {n m : Nat} (h : SOK S n) (hm : n ≤ m) : SOK S m := fun id e he => by
  obtain ⟨h1, h2, h3, h4⟩ := h id e he
  exact ⟨h1, h2, by omega, h4⟩
theorem SOK.del {S : ByteArray → Option Ent} {n : Nat} (h : SOK S n) (id : ByteArray) : SOK (updS S id none) n := fun k e he => by
  have hk : k ≠ id := fun e' => by simp [updS, e'] at he
  obtain ⟨h1, h2, h3, h4⟩ := h k e (by simpa [updS, hk] using he)
  refine ⟨h1, h2, h3, fun k' e' he' => ?_⟩
  by_cases hk' : k' = id
  · simp [updS, hk'] at he'
  · exact h4 k' e' (by simpa [updS, hk'] using he')
theorem SOK.put {S : ByteArray → Option Ent} {n : Nat} (h : SOK S n) (id : ByteArray) (e : Ent) (hf : EntFit e) (hp : 0 < e.path.size) (hs : (∃ old, S id = some old ∧ e.seq = old.seq) ∨ e.seq = n) : SOK (updS S id (some e)) (n + 1) := fun k x hx => by
  by_cases hk : k = id
  · subst hk
    simp [updS] at hx
    subst hx
    refine ⟨hf, hp, ?_, fun k' x' hx' hseq => ?_⟩
    · rcases hs with ⟨old, ho, hso⟩ | hs
      · have := (h k old ho).2.2.1; omega
      · omega
    · by_cases hk' : k' = k
      · exact hk'
      · rw [updS, if_neg hk'] at hx'
        rcases hs with ⟨old, ho, hso⟩ | hs
        · exact (h k old ho).2.2.2 k' x' hx' (by rw [hseq, hso])
        · have := (h k' x' hx').2.2.1; omega
  · rw [updS, if_neg hk] at hx
    obtain ⟨h1, h2, h3, h4⟩ := h k x hx
    refine ⟨h1, h2, by omega, fun k' x' hx' hseq => ?_⟩
    by_cases hk' : k' = id
    · subst hk'
      simp [updS] at hx'
      subst hx'
      rcases hs with ⟨old, ho, hso⟩ | hs
      · exact h4 k' old ho (by rw [← hso, hseq])
      · omega
    · exact h4 k' x' (by simpa [updS, hk'] using hx') hseq
theorem SOK.put_old {S : ByteArray → Option Ent} {n : Nat} (h : SOK S n) (id : ByteArray) (e old : Ent) (hf : EntFit e) (hp : 0 < e.path.size) (ho : S id = some old) (hs : e.seq = old.seq) : SOK (updS S id (some e)) n := fun k x hx => by
  obtain ⟨h1, h2, h3, h4⟩ := h.put id e hf hp (Or.inl ⟨old, ho, hs⟩) k x hx
  refine ⟨h1, h2, ?_, h4⟩
  by_cases hk : k = id
  · subst hk
    simp [updS] at hx
    subst hx
    have := (h k old ho).2.2.1; omega
  · exact (h k x (by simpa [updS, hk] using hx)).2.2.1
theorem SOK.keep {S : ByteArray → Option Ent} {n : Nat} (h : SOK S n) (now : Int) : SOK (purge now S) n := by
  have key : ∀ id e, purge now S id = some e → S id = some e := fun id e he => by
    unfold purge YtcofblepdfjhjaaGreatDoor.keep at he
    split at he
    · rename_i x hx
      split at he
      · rw [hx]; exact he
      · cases he
    · cases he
  intro id e he
  obtain ⟨h1, h2, h3, h4⟩ := h id e (key id e he)
  exact ⟨h1, h2, h3, fun id' e' he' => h4 id' e' (key id' e' he')⟩
/-- What is asked of a step and its cookies. -/
def CkOK (c : PCookie) : Prop := DomOK (lst c.domain) ∧ c.maxAge ≤ 4294967296 ∧ (0 ≤ c.expires ∧ c.expires ≤ 4294967296) ∧ c.name.size ≤ 2147483647 ∧ c.value.size ≤ 2147483647 ∧ c.domain.size ≤ 2147483647 ∧ c.path.size ≤ 2147483647
structure StepOK (s : PStep) : Prop where
  host : HostPort (lst s.host) (splitB (lst s.host)).1
  tm : 0 ≤ s.tm ∧ s.tm ≤ 4294967296
  ho : s.host.size ≤ 4294967296
  pa : s.path.size ≤ 2147483647
  len : s.cookies.length ≤ 2147483647
  cks : ∀ c ∈ s.cookies, CkOK c
theorem setOne_ok {S : ByteArray → Option Ent} {host defp : ByteArray} {now : Int} {c : PCookie} (h : SOK S n) (hh : host.size ≤ 4294967296) (hdp : defp.size ≤ 2147483647) (hd0 : 0 < defp.size) (hc : CkOK c) :
    SOK (setOne now (newEnt psl host defp now c) (S, n)).1 (setOne now (newEnt psl host defp now c) (S, n)).2 := by
  obtain ⟨_, _, _, c1, c2, c3, c4⟩ := hc
  unfold setOne
  split
  · exact h
  · exact h.del _
  · rename_i e hne
    obtain ⟨f1, f2, _, _⟩ := newEnt_fit hne hh hdp hd0 c1 c2 c3 c4
    split
    · rename_i old hold
      exact h.put_old _ _ old f1 f2 hold rfl
    · exact h.put _ _ f1 f2 (Or.inr rfl)
theorem setList_ok {host defp : ByteArray} {now : Int} (hh : host.size ≤ 4294967296) (hdp : defp.size ≤ 2147483647) (hd0 : 0 < defp.size) : ∀ (cs : List PCookie) (S : ByteArray → Option Ent) (n : Nat), SOK S n → (∀ c ∈ cs, CkOK c) →
    SOK (setList psl host defp now cs (S, n)).1 (setList psl host defp now cs (S, n)).2 ∧ n ≤ (setList psl host defp now cs (S, n)).2 ∧ (setList psl host defp now cs (S, n)).2 ≤ n + cs.length
  | [], S, n, h, _ => ⟨h, Nat.le_refl _, Nat.le_refl _⟩
  | c :: r, S, n, h, hc => by
    have h1 := setOne_ok (psl := psl) (now := now) h hh hdp hd0 (hc c List.mem_cons_self)
    have h2 := setOne_n now (newEnt psl host defp now c) (S, n)
    have h3 := setList_ok (now := now) hh hdp hd0 r (setOne now (newEnt psl host defp now c) (S, n)).1 (setOne now (newEnt psl host defp now c) (S, n)).2 h1 (fun x hx => hc x (List.mem_cons_of_mem _ hx))
    have e : setList psl host defp now (c :: r) (S, n) = setList psl host defp now r ((setOne now (newEnt psl host defp now c) (S, n)).1, (setOne now (newEnt psl host defp now c) (S, n)).2) := rfl
    rw [e]
    refine ⟨h3.1, ?_, ?_⟩
    · have := h3.2.1; simp only [] at h2; omega
    · have := h3.2.2; simp only [] at h2; rw [List.length_cons]; omega
theorem hostOf_size {s : PStep} (h : StepOK s) : (hostOf s).size ≤ 4294967296 := by
  have h1 := host_len h.host
  have h2 := h.ho
  rw [lst_len] at h1
  rw [hostOf, str_size, hostB, low_len]
  omega
theorem defOf_size {s : PStep} (h : StepOK s) : (defOf s).size ≤ 2147483647 ∧ 0 < (defOf s).size := by
  have h1 := defPath_fit (lst s.path)
  have h2 := h.pa
  rw [lst_len] at h1
  rw [defOf, str_size]
  omega
theorem setJ_ok {s : PStep} (h : JOK J n) (hs : StepOK s) : JOK (setJ psl s J n) (setN psl s J n) ∧ n ≤ setN psl s J n ∧ setN psl s J n ≤ n + s.cookies.length := by
  have h1 := setList_ok (psl := psl) (now := s.tm) (hostOf_size hs) (defOf_size hs).1 (defOf_size hs).2 s.cookies (J (keyOf psl (hostOf s))) n (h _) hs.cks
  unfold setJ setN
  split
  · exact ⟨h, Nat.le_refl _, by omega⟩
  · refine ⟨fun k => ?_, h1.2.1, h1.2.2⟩
    by_cases hk : k = keyOf psl (hostOf s)
    · have e : updJ J (keyOf psl (hostOf s)) (setS psl s J n).1 k = (setS psl s J n).1 := by rw [updJ, if_pos hk]
      rw [e]; exact h1.1
    · have e : updJ J (keyOf psl (hostOf s)) (setS psl s J n).1 k = J k := by rw [updJ, if_neg hk]
      rw [e]; exact (h k).mono h1.2.1
theorem askJ_ok {s : PStep} (h : JOK J n) : JOK (askJ psl s J) n := by
  unfold askJ
  split
  · exact h
  · intro k
    by_cases hk : k = keyOf psl (hostOf s)
    · rw [updJ, if_pos hk]; exact (h _).keep _
    · rw [updJ, if_neg hk]; exact h k
end
end Go.Proofs.YtcofblepdfjhjaaGreatDoor
