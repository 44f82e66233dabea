/- Plain laws: what one cookie's setting leaves, and what is sent then. -/
import Derived.Test.YtcofblepdfjhjaaGreatDoorModel
namespace Go.Proofs.YtcofblepdfjhjaaGreatDoor
def pslOf (listed : Bool) (sufs : List ByteArray) : Option (List ByteArray) := if listed then some sufs else none
def httpB : ByteArray := ⟨#[104, 116, 116, 112]⟩
def httpsB : ByteArray := ⟨#[104, 116, 116, 112, 115]⟩
theorem web_https : isWeb httpsB = true := by decide
theorem web_http : isWeb httpB = true := by decide
theorem isHttps_https : isHttps httpsB = true := by decide
theorem isHttps_http : isHttps httpB = false := by decide
theorem web_iff (s : ByteArray) : isWeb s = true ↔ s = httpB ∨ s = httpsB := by simp [isWeb, httpB, httpsB]
section
variable {psl : Option (List ByteArray)} {J : ByteArray → ByteArray → Option Ent} {n : Nat}
theorem RunRel.inv_nil {o : List (List Ent)} (h : RunRel psl J n [] o) : o = [] := by cases h; rfl
theorem RunRel.inv_set {s : PStep} {r : List PStep} {o : List (List Ent)} (h : RunRel psl J n (s :: r) o) (hs : s.set = true) : RunRel psl (setJ psl s J n) (setN psl s J n) r o := by
  cases h with
  | set _ hr => exact hr
  | ask hs' _ _ => rw [hs] at hs'; cases hs'
theorem RunRel.inv_ask {s : PStep} {r : List PStep} {o : List (List Ent)} (h : RunRel psl J n (s :: r) o) (hs : s.set = false) : ∃ L o', o = L :: o' ∧ AskL psl J s L ∧ RunRel psl (askJ psl s J) n r o' := by
  cases h with
  | set hs' _ => rw [hs] at hs'; cases hs'
  | ask _ hL hr => exact ⟨_, _, rfl, hL, hr⟩
theorem RunRel.sa {s1 a : PStep} {o : List (List Ent)} (h : RunRel psl J n [s1, a] o) (h1 : s1.set = true) (h2 : a.set = false) : ∃ L, o = [L] ∧ AskL psl (setJ psl s1 J n) a L := by
  obtain ⟨L, o', rfl, hL, hr⟩ := (h.inv_set h1).inv_ask h2
  rw [hr.inv_nil]; exact ⟨L, rfl, hL⟩
theorem RunRel.ssa {s1 s2 a : PStep} {o : List (List Ent)} (h : RunRel psl J n [s1, s2, a] o) (h1 : s1.set = true) (h2 : s2.set = true) (h3 : a.set = false) :
    ∃ L, o = [L] ∧ AskL psl (setJ psl s2 (setJ psl s1 J n) (setN psl s1 J n)) a L := by
  obtain ⟨L, o', rfl, hL, hr⟩ := ((h.inv_set h1).inv_set h2).inv_ask h3
  rw [hr.inv_nil]; exact ⟨L, rfl, hL⟩
theorem AskL.web {s : PStep} {L : List Ent} (h : AskL psl J s L) (hw : isWeb s.scheme = true) : Sent (J (keyOf psl (hostOf s))) s.tm (isHttps s.scheme) (hostOf s) (askPath s.path) L := by
  unfold AskL at h
  rwa [if_neg (by rw [hw]; simp)] at h
theorem setJ_off {s : PStep} (h : isWeb s.scheme = false) : setJ psl s J n = J ∧ setN psl s J n = n := by
  unfold setJ setN
  rw [if_pos (Or.inr h), if_pos (Or.inr h)]; exact ⟨rfl, rfl⟩
theorem setJ_one {s : PStep} {c : PCookie} (hc : s.cookies = [c]) (h : isWeb s.scheme = true) :
    setJ psl s J n = updJ J (keyOf psl (hostOf s)) (setOne s.tm (newEnt psl (hostOf s) (defOf s) s.tm c) (J (keyOf psl (hostOf s)), n)).1 ∧
      setN psl s J n = (setOne s.tm (newEnt psl (hostOf s) (defOf s) s.tm c) (J (keyOf psl (hostOf s)), n)).2 := by
  have hn : ¬ (s.cookies = [] ∨ isWeb s.scheme = false) := by rw [hc, h]; simp
  unfold setJ setN
  rw [if_neg hn, if_neg hn, setS, hc]; exact ⟨rfl, rfl⟩
end
theorem updJ_at (J : ByteArray → ByteArray → Option Ent) (k : ByteArray) (S : ByteArray → Option Ent) : updJ J k S k = S := by simp [updJ]
theorem updJ_ne (J : ByteArray → ByteArray → Option Ent) {k k' : ByteArray} (S : ByteArray → Option Ent) (h : k' ≠ k) : updJ J k S k' = J k' := by simp [updJ, h]
/-- Entries of one alone. -/
def only (id : ByteArray) (e : Ent) : ByteArray → Option Ent := fun k => if k = id then some e else none
theorem Sent.none {S : ByteArray → Option Ent} {now : Int} {https : Bool} {host path : ByteArray} {L : List Ent} (h : Sent S now https host path L) (hS : ∀ id, S id = none) : L = [] := by
  cases L with
  | nil => rfl
  | cons e r =>
    obtain ⟨id, h1, _⟩ := (h.mem e).1 List.mem_cons_self
    rw [hS] at h1; cases h1
theorem Sent.only {id : ByteArray} {e : Ent} {now : Int} {https : Bool} {host path : ByteArray} {L : List Ent} (h : Sent (YtcofblepdfjhjaaGreatDoor.only id e) now https host path L) :
    L = if (aliveE now e && sendB e https host path) = true then [e] else [] := by
  have hm : ∀ x, x ∈ L ↔ x = e ∧ (aliveE now e && sendB e https host path) = true := by
    intro x
    rw [h.mem x, Bool.and_eq_true]
    constructor
    · rintro ⟨k, h1, h2⟩
      unfold YtcofblepdfjhjaaGreatDoor.only at h1
      split at h1
      · cases h1; exact ⟨rfl, h2⟩
      · cases h1
    · rintro ⟨rfl, h2⟩
      exact ⟨id, by simp [YtcofblepdfjhjaaGreatDoor.only], h2⟩
  refine sorted_unique _ _ h.sorted ?_ fun x => ?_
  · split
    · exact List.pairwise_singleton _ _
    · exact List.Pairwise.nil
  · rw [hm x]
    split
    · rename_i hc; simp [hc]
    · rename_i hc; simp [hc]
/-- What newEntry makes of a cookie, field by field. -/
theorem newEnt_some {psl : Option (List ByteArray)} {host defp : ByteArray} {now : Int} {c : PCookie} {p : ByteArray × Bool} (h : domTy psl host c.domain = some p) :
    ∃ e, newEnt psl host defp now c = some (e, decide (c.maxAge < 0 ∨ (c.maxAge = 0 ∧ c.expires ≠ 0 ∧ c.expires ≤ now))) ∧ entId e = p.1 ++ ⟨#[59]⟩ ++ pathOf c defp ++ ⟨#[59]⟩ ++ c.name ∧ e.domain = p.1 ∧ e.hostOnly = p.2 ∧ e.name = c.name ∧ e.path = pathOf c defp ∧
      (¬ (c.maxAge < 0 ∨ (c.maxAge = 0 ∧ c.expires ≠ 0 ∧ c.expires ≤ now)) → e.value = c.value ∧ e.secure = c.secure ∧ e.persistent = decide (c.maxAge ≠ 0 ∨ c.expires ≠ 0) ∧ (0 < c.maxAge → e.exp = now + c.maxAge) ∧ (c.maxAge = 0 → c.expires ≠ 0 → e.exp = c.expires)) := by
  unfold newEnt
  rw [h]
  simp only [Option.map_some, Option.some.injEq]
  by_cases h1 : c.maxAge < 0
  · rw [if_pos h1]
    exact ⟨_, Prod.ext rfl (by simp [h1]), rfl, rfl, rfl, rfl, rfl, fun h => absurd (Or.inl h1) h⟩
  · rw [if_neg h1]
    by_cases h2 : 0 < c.maxAge
    · rw [if_pos h2]
      have hn : ¬ c.maxAge = 0 := by omega
      exact ⟨_, Prod.ext rfl (by simp [h1, hn]), rfl, rfl, rfl, rfl, rfl, fun _ => ⟨rfl, rfl, by simp [hn], fun _ => rfl, fun h => absurd h hn⟩⟩
    · rw [if_neg h2]
      have h0 : c.maxAge = 0 := by omega
      by_cases h3 : c.expires = 0
      · rw [if_pos h3]
        exact ⟨_, Prod.ext rfl (by simp [h1, h3]), rfl, rfl, rfl, rfl, rfl, fun _ => ⟨rfl, rfl, by simp [h0, h3], fun h => absurd h h2, fun _ h => absurd h3 h⟩⟩
      · rw [if_neg h3]
        by_cases h4 : now < c.expires
        · rw [if_pos h4]
          exact ⟨_, Prod.ext rfl (by simp [h0, h4]), rfl, rfl, rfl, rfl, rfl, fun _ => ⟨rfl, rfl, by simp [h3], fun h => absurd h h2, fun _ _ => rfl⟩⟩
        · rw [if_neg h4]
          exact ⟨_, Prod.ext rfl (by simp [h0, h3]; omega), rfl, rfl, rfl, rfl, rfl, fun h => absurd (Or.inr ⟨h0, h3, by omega⟩) h⟩
theorem newEnt_none {psl : Option (List ByteArray)} {host defp : ByteArray} {now : Int} {c : PCookie} (h : domTy psl host c.domain = none) : newEnt psl host defp now c = none := by
  unfold newEnt; rw [h]; rfl
/-- A cookie set into no entries: none, or one. -/
theorem set_first {psl : Option (List ByteArray)} {host defp : ByteArray} {now : Int} {c : PCookie} {n : Nat} :
    (∀ id, (setOne now (newEnt psl host defp now c) (fun _ => none, n)).1 id = none) ∨
    ∃ e p, domTy psl host c.domain = some p ∧ ¬ (c.maxAge < 0 ∨ (c.maxAge = 0 ∧ c.expires ≠ 0 ∧ c.expires ≤ now)) ∧ (setOne now (newEnt psl host defp now c) (fun _ => none, n)).1 = only (p.1 ++ ⟨#[59]⟩ ++ pathOf c defp ++ ⟨#[59]⟩ ++ c.name) e ∧
      e.domain = p.1 ∧ e.hostOnly = p.2 ∧ e.name = c.name ∧ e.path = pathOf c defp ∧ e.value = c.value ∧ e.secure = c.secure ∧ e.persistent = decide (c.maxAge ≠ 0 ∨ c.expires ≠ 0) ∧ (0 < c.maxAge → e.exp = now + c.maxAge) ∧ (c.maxAge = 0 → c.expires ≠ 0 → e.exp = c.expires) := by
  cases hd : domTy psl host c.domain with
  | none => left; intro id; rw [newEnt_none hd]; rfl
  | some p =>
    obtain ⟨e, h1, h2, h3, h4, h5, h6, h7⟩ := newEnt_some (defp := defp) (now := now) hd
    rw [h1]
    by_cases hr : c.maxAge < 0 ∨ (c.maxAge = 0 ∧ c.expires ≠ 0 ∧ c.expires ≤ now)
    · left
      intro id
      rw [decide_eq_true hr]
      simp [setOne, updS]
    · right
      rw [decide_eq_false hr]
      obtain ⟨g1, g2, g3, g4, g5⟩ := h7 hr
      refine ⟨{ e with cre := now, seq := n }, p, rfl, hr, ?_, h3, h4, h5, h6, g1, g2, g3, g4, g5⟩
      rw [← h2]
      rfl
theorem ask_path {l : List UInt8} (h : isPathB l = true) : l = [] ∨ ((l.getD 0 0).toNat : Int) = 47 := by
  unfold isPathB at h
  rw [Bool.and_eq_true] at h
  exact of_decide_eq_true h.2
theorem getD_zero {l : List UInt8} (h : ((l.getD 0 0).toNat : Int) = 47) : ∃ x r, l = x :: r ∧ (x.toNat : Int) = 47 := by
  match l, h with
  | x :: r, h => exact ⟨x, r, rfl, h⟩
theorem slash {x : UInt8} (h : (x.toNat : Int) = 47) : x = 47 := byte_of 47 h (by omega)
/-- A path is below the root; and below its own directory. -/
theorem pat_root {e : Ent} {pa : ByteArray} (he : e.path = ⟨#[47]⟩) (h : isPathB (lst pa) = true) : patMatch e (askPath pa) = true := by
  unfold patMatch askPath
  rw [he]
  rcases ask_path h with h0 | h0
  · have : pa.size = 0 := by rw [← lst_len, h0]; rfl
    rw [if_pos this]; simp
  · obtain ⟨x, r, e1, hx⟩ := getD_zero h0
    have hs : ¬ pa.size = 0 := by rw [← lst_len, e1]; simp
    have h47 := slash hx
    subst h47
    have : hasPre (lst pa) (lst ⟨#[47]⟩) = true := by rw [e1]; simp [hasPre, lst]
    have h2 : decide ((((lst ⟨#[47]⟩).getD ((⟨#[47]⟩ : ByteArray).size - 1) 0).toNat : Int) = 47) = true := by decide
    rw [if_neg hs, this, h2]
    simp
theorem pat_own {e : Ent} {pa : ByteArray} (he : e.path = str (defPath (lst pa))) (h : isPathB (lst pa) = true) : patMatch e (askPath pa) = true := by
  by_cases hd : defPath (lst pa) = [47]
  · exact pat_root (by rw [he, hd]; rfl) h
  · have hd' := hd
    unfold defPath at hd'
    split at hd'
    · exact absurd rfl hd'
    · rename_i h1
      split at hd'
      · exact absurd rfl hd'
      · rename_i h2
        have hne : ¬ (lst pa).length = 0 := fun e => h1 (Or.inl e)
        have h0 : (((lst pa).getD 0 0).toNat : Int) = 47 := by
          by_cases e : (((lst pa).getD 0 0).toNat : Int) = 47
          · exact e
          · exact absurd (Or.inr e) h1
        rcases last_cases 47 (lst pa) with hc | ⟨a, x, b, e1, hx, hb⟩
        · obtain ⟨y, r, e2, hy⟩ := getD_zero h0
          exact absurd hy (hc y (by rw [e2]; exact List.mem_cons_self))
        · have hi : lastIdx 47 (lst pa) = a.length := by rw [e1]; exact lastIdx_at hx hb
          have hdp : defPath (lst pa) = a := by
            unfold defPath
            rw [if_neg h1, if_neg h2, hi, e1]
            simp
          have hep : lst e.path = a := by rw [he, lst_str, hdp]
          have hes : e.path.size = a.length := by rw [← lst_len, hep]
          unfold patMatch askPath
          rw [if_neg (by rw [← lst_len]; exact hne), hep, hes]
          have : hasPre (lst pa) a = true := by rw [e1]; simp [hasPre]
          rw [this]
          have hg : (((lst pa).getD a.length 0).toNat : Int) = 47 := by
            rw [e1, List.getD_eq_getElem?_getD, List.getElem?_append_right (Nat.le_refl _)]
            simpa using hx
          simp only [hg, decide_true, Bool.or_true, Bool.and_true]
theorem sec_https (e : Ent) : secMatch e true = true := by simp [secMatch]
theorem sec_not {e : Ent} (h : e.secure = false) (b : Bool) : secMatch e b = true := by simp [secMatch, h]
theorem host_eq {s t : PStep} (h : s.host = t.host) : hostOf s = hostOf t := by rw [hostOf, hostOf, h]
theorem def_eq {s t : PStep} (h : s.path = t.path) : defOf s = defOf t := by rw [defOf, defOf, h]
end Go.Proofs.YtcofblepdfjhjaaGreatDoor
