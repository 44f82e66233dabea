/- Plain laws of runs: what comes later, other schemes, other forms of hosts. -/
import Derived.Test.YtcofblepdfjhjaaGreatDoorLawsA
namespace Go.Proofs.YtcofblepdfjhjaaGreatDoor
/-- A jar's state behind steps. -/
def endJ (psl : Option (List ByteArray)) : (ByteArray → ByteArray → Option Ent) → Nat → List PStep → (ByteArray → ByteArray → Option Ent) × Nat
  | J, n, [] => (J, n)
  | J, n, s :: r => if s.set = true then endJ psl (setJ psl s J n) (setN psl s J n) r else endJ psl (askJ psl s J) n r
section
variable {psl : Option (List ByteArray)}
theorem RunRel.app : ∀ {l1 : List PStep} {l2 : List PStep} {J : ByteArray → ByteArray → Option Ent} {n : Nat} {o : List (List Ent)}, RunRel psl J n (l1 ++ l2) o →
    ∃ o1 o2, o = o1 ++ o2 ∧ RunRel psl J n l1 o1 ∧ RunRel psl (endJ psl J n l1).1 (endJ psl J n l1).2 l2 o2
  | [], l2, J, n, o, h => ⟨[], o, rfl, RunRel.nil J n, h⟩
  | s :: r, l2, J, n, o, h => by
    cases hs : s.set
    · obtain ⟨L, o', rfl, hL, hr⟩ := RunRel.inv_ask h hs
      obtain ⟨o1, o2, rfl, h1, h2⟩ := RunRel.app hr
      refine ⟨L :: o1, o2, rfl, RunRel.ask hs hL h1, ?_⟩
      rw [endJ, if_neg (by rw [hs]; simp)]; exact h2
    · obtain ⟨o1, o2, rfl, h1, h2⟩ := RunRel.app (RunRel.inv_set h hs)
      refine ⟨o1, o2, rfl, RunRel.set hs h1, ?_⟩
      rw [endJ, if_pos hs]; exact h2
theorem law_later {ss : List PStep} {k : Nat} {o o' : List (List Ent)} {J : ByteArray → ByteArray → Option Ent} {n : Nat} (h : RunRel psl J n ss o) (h' : RunRel psl J n (ss.take k) o') : ∃ o2, o = o' ++ o2 := by
  rw [← List.take_append_drop k ss] at h
  obtain ⟨o1, o2, rfl, h1, _⟩ := h.app
  rw [h1.unique h']
  exact ⟨o2, rfl⟩
/-- A run whose last step asks. -/
theorem RunRel.last {ss : List PStep} {a : PStep} {o : List (List Ent)} {J : ByteArray → ByteArray → Option Ent} {n : Nat} (ha : a.set = false) (h : RunRel psl J n (ss ++ [a]) o) : ∃ o1 L, o = o1 ++ [L] ∧ AskL psl (endJ psl J n ss).1 a L := by
  obtain ⟨o1, o2, rfl, _, h2⟩ := h.app
  obtain ⟨L, o', rfl, hL, hr⟩ := h2.inv_ask ha
  rw [hr.inv_nil]
  exact ⟨o1, L, rfl, hL⟩
theorem endJ_app : ∀ (l1 l2 : List PStep) (J : ByteArray → ByteArray → Option Ent) (n : Nat), endJ psl J n (l1 ++ l2) = endJ psl (endJ psl J n l1).1 (endJ psl J n l1).2 l2
  | [], _, _, _ => rfl
  | s :: r, l2, J, n => by
    rw [List.cons_append, endJ, endJ]
    split
    · exact endJ_app r l2 _ _
    · exact endJ_app r l2 _ _
theorem law_scheme {ss : List PStep} {s1 a b : PStep} {o1 o2 o3 : List (List Ent)} (h1 : s1.set = true) (ha : a.set = false) (hb : b.set = false) (hs1 : isWeb s1.scheme = false) (hbs : isWeb b.scheme = false)
    (r1 : RunRel psl noJar 0 (ss ++ [s1, a]) o1) (r2 : RunRel psl noJar 0 (ss ++ [a]) o2) (r3 : RunRel psl noJar 0 (ss ++ [b]) o3) : ∃ p1 p2 p3 L, o1 = p1 ++ [L] ∧ o2 = p2 ++ [L] ∧ o3 = p3 ++ [[]] := by
  rw [show ss ++ [s1, a] = (ss ++ [s1]) ++ [a] by simp] at r1
  obtain ⟨p1, L1, rfl, g1⟩ := r1.last ha
  obtain ⟨p2, L2, rfl, g2⟩ := r2.last ha
  obtain ⟨p3, L3, rfl, g3⟩ := r3.last hb
  rw [endJ_app, endJ, if_pos h1, endJ, (setJ_off hs1).1] at g1
  have e := g1.unique g2
  subst e
  unfold AskL at g3
  rw [if_pos hbs] at g3
  subst g3
  exact ⟨p1, p2, p3, L1, rfl, rfl, rfl⟩
theorem step_form {f : PStep → PStep} {s : PStep} (h : hostOf (f s) = hostOf s ∧ (f s).set = s.set ∧ (f s).tm = s.tm ∧ (f s).scheme = s.scheme ∧ (f s).path = s.path ∧ (f s).cookies = s.cookies) (J : ByteArray → ByteArray → Option Ent) (n : Nat) :
    setJ psl (f s) J n = setJ psl s J n ∧ setN psl (f s) J n = setN psl s J n ∧ askJ psl (f s) J = askJ psl s J ∧ (∀ L, AskL psl J (f s) L ↔ AskL psl J s L) := by
  obtain ⟨h1, h2, h3, h4, h5, h6⟩ := h
  have h7 : defOf (f s) = defOf s := def_eq h5
  unfold setJ setN setS askJ AskL
  rw [h1, h3, h4, h5, h6, h7]
  exact ⟨rfl, rfl, rfl, fun _ => Iff.rfl⟩
theorem law_form {f : PStep → PStep} {ss : List PStep} {J : ByteArray → ByteArray → Option Ent} {n : Nat} {o : List (List Ent)}
    (hf : ∀ s ∈ ss, hostOf (f s) = hostOf s ∧ (f s).set = s.set ∧ (f s).tm = s.tm ∧ (f s).scheme = s.scheme ∧ (f s).path = s.path ∧ (f s).cookies = s.cookies) (h : RunRel psl J n ss o) : RunRel psl J n (ss.map f) o := by
  induction h with
  | nil J n => exact RunRel.nil J n
  | @set J n s r o hs _ ih =>
    have hfs := hf s List.mem_cons_self
    obtain ⟨e1, e2, _, _⟩ := step_form (psl := psl) hfs J n
    refine RunRel.set (by rw [hfs.2.1]; exact hs) ?_
    rw [e1, e2]
    exact ih fun x hx => hf x (List.mem_cons_of_mem _ hx)
  | @ask J n s r L o hs hL _ ih =>
    have hfs := hf s List.mem_cons_self
    obtain ⟨_, _, e3, e4⟩ := step_form (psl := psl) hfs J n
    refine RunRel.ask (by rw [hfs.2.1]; exact hs) ((e4 L).2 hL) ?_
    rw [e3]
    exact ih fun x hx => hf x (List.mem_cons_of_mem _ hx)
end
theorem lowC_upC (x : UInt8) : lowC (upC (lowC x)) = lowC x := by
  have key : ∀ n : Fin 256, lowC (upC (lowC (UInt8.ofNat n.val))) = lowC (UInt8.ofNat n.val) := by decide +kernel
  have := key ⟨x.toNat, x.toNat_lt⟩
  simpa using this
theorem upC_colon (x : UInt8) (h : (x.toNat : Int) ≠ 58) : ((upC x).toNat : Int) ≠ 58 := by
  have key : ∀ n : Fin 256, ((UInt8.ofNat n.val).toNat : Int) ≠ 58 → ((upC (UInt8.ofNat n.val)).toNat : Int) ≠ 58 := by decide +kernel
  have := key ⟨x.toNat, x.toNat_lt⟩
  simpa using this (by simpa using h)
theorem lowC_colon (x : UInt8) (h : (x.toNat : Int) ≠ 58) : ((lowC x).toNat : Int) ≠ 58 := by
  have key : ∀ n : Fin 256, ((UInt8.ofNat n.val).toNat : Int) ≠ 58 → ((lowC (UInt8.ofNat n.val)).toNat : Int) ≠ 58 := by decide +kernel
  have := key ⟨x.toNat, x.toNat_lt⟩
  simpa using this (by simpa using h)
theorem split_no (l : List UInt8) : ∀ y ∈ (splitB l).1, (y.toNat : Int) ≠ 58 := by
  by_cases h : idx 58 l = -1
  · have : (splitB l).1 = l := by unfold splitB; rw [if_pos h]
    rw [this]
    intro y hy e
    obtain ⟨a, b, e1⟩ := List.append_of_mem hy
    have key : ∀ (a : List UInt8) (k : Nat), idxGo 58 k (a ++ y :: b) ≠ -1 := by
      intro a
      induction a with
      | nil => intro k; rw [List.nil_append, idxGo, if_pos e]; omega
      | cons z r ih =>
        intro k
        rw [List.cons_append, idxGo]
        split
        · omega
        · exact ih _
    exact key a 0 (by rw [← e1]; exact h)
  · obtain ⟨a, x, b, e, hx, ha, hi⟩ := idx_cut 58 l h
    rw [e, split_at hx ha]
    exact ha
/-- A host in upper case with a port has the same canonical name. -/
theorem host_form (h p : List UInt8) : hostB (upp (hostB h) ++ 58 :: p) = hostB h := by
  have hn := split_no h
  have h1 : ∀ y ∈ upp (hostB h), (y.toNat : Int) ≠ 58 := by
    intro y hy
    unfold upp hostB low at hy
    simp only [List.mem_map] at hy
    obtain ⟨z, ⟨x, hx, rfl⟩, rfl⟩ := hy
    exact upC_colon _ (lowC_colon _ (hn x hx))
  rw [hostB, split_at (by decide) h1]
  unfold upp hostB low
  rw [List.map_map, List.map_map]
  apply List.map_congr_left
  intro x _
  exact lowC_upC x
end Go.Proofs.YtcofblepdfjhjaaGreatDoor
