/- Plain laws of one cookie: deleted, set again, ended, own host, suffix, secure. -/
import Derived.Test.YtcofblepdfjhjaaGreatDoorLawsA
namespace Go.Proofs.YtcofblepdfjhjaaGreatDoor
theorem pathOf_same {c d : PCookie} (h : d.path = c.path) (defp : ByteArray) : pathOf d defp = pathOf c defp := by unfold pathOf; rw [h]
theorem gone_twice {psl : Option (List ByteArray)} {host defp : ByteArray} {c d : PCookie} {t u : Int} {n m : Nat} (hn : d.name = c.name) (hd : d.domain = c.domain) (hp : d.path = c.path) (hrem : d.maxAge < 0 ∨ (d.maxAge = 0 ∧ d.expires ≠ 0 ∧ d.expires ≤ u)) :
    ∀ id, (setOne u (newEnt psl host defp u d) ((setOne t (newEnt psl host defp t c) (fun _ => none, n)).1, m)).1 id = none := by
  have hpo := pathOf_same hp defp
  cases hdt : domTy psl host d.domain with
  | none =>
    rw [newEnt_none hdt]
    rw [hd] at hdt
    rw [newEnt_none hdt]
    intro id; rfl
  | some p =>
    obtain ⟨e, h1, h2, _⟩ := newEnt_some (defp := defp) (now := u) hdt
    rw [h1, decide_eq_true hrem]
    intro id
    show updS _ (entId e) none id = none
    rcases set_first (psl := psl) (host := host) (defp := defp) (now := t) (c := c) (n := n) with hS | ⟨e', p', hp', _, hS, _⟩
    · unfold updS; split
      · rfl
      · exact hS id
    · rw [hS]
      rw [← hd, hdt] at hp'
      cases hp'
      rw [hpo, hn] at h2
      rw [h2]
      unfold updS only
      split
      · rfl
      · rename_i hne; first | rfl | rw [if_neg hne]
theorem law_deleted {psl : Option (List ByteArray)} {sc ho pa : ByteArray} {c d : PCookie} {o : List (List Ent)} (hn : d.name = c.name) (hd : d.domain = c.domain) (hp : d.path = c.path) (hrem : d.maxAge < 0 ∨ (d.maxAge = 0 ∧ d.expires ≠ 0 ∧ d.expires ≤ 3))
    (h : RunRel psl noJar 0 [⟨true, 2, sc, ho, pa, [c]⟩, ⟨true, 3, sc, ho, pa, [d]⟩, ⟨false, 4, httpsB, ho, pa, []⟩] o) : o = [[]] := by
  obtain ⟨L, rfl, hL⟩ := h.ssa rfl rfl rfl
  rw [(hL.web web_https).none ?_]
  cases hw : isWeb sc
  · rw [(setJ_off (s := ⟨true, 3, sc, ho, pa, [d]⟩) hw).1, (setJ_off (s := ⟨true, 2, sc, ho, pa, [c]⟩) hw).1]
    intro id; rfl
  · rw [(setJ_one (s := ⟨true, 3, sc, ho, pa, [d]⟩) rfl hw).1, (setJ_one (s := ⟨true, 2, sc, ho, pa, [c]⟩) rfl hw).1]
    have e1 : hostOf ⟨false, 4, httpsB, ho, pa, []⟩ = hostOf ⟨true, 3, sc, ho, pa, [d]⟩ := rfl
    have e2 : hostOf ⟨true, 2, sc, ho, pa, [c]⟩ = hostOf ⟨true, 3, sc, ho, pa, [d]⟩ := rfl
    have e3 : defOf ⟨true, 2, sc, ho, pa, [c]⟩ = defOf ⟨true, 3, sc, ho, pa, [d]⟩ := rfl
    rw [e1, e2, e3, updJ_at, updJ_at]
    exact gone_twice hn hd hp hrem
theorem law_again {psl : Option (List ByteArray)} {sc ho pa : ByteArray} {c : PCookie} {v : ByteArray} {o1 o2 : List (List Ent)} (hm : c.maxAge = 0) (he : c.expires = 0)
    (h1 : RunRel psl noJar 0 [⟨true, 3, sc, ho, pa, [{ c with value := v }]⟩, ⟨false, 4, httpsB, ho, pa, []⟩] o1)
    (h2 : RunRel psl noJar 0 [⟨true, 2, sc, ho, pa, [c]⟩, ⟨true, 3, sc, ho, pa, [{ c with value := v }]⟩, ⟨false, 4, httpsB, ho, pa, []⟩] o2) :
    ∃ L1 L2, o1 = [L1] ∧ o2 = [L2] ∧ L1.map pairOf = L2.map pairOf ∧ L2.length ≤ 1 := by
  obtain ⟨L1, rfl, hL1⟩ := h1.sa rfl rfl
  obtain ⟨L2, rfl, hL2⟩ := h2.ssa rfl rfl rfl
  refine ⟨L1, L2, rfl, rfl, ?_⟩
  have hs1 := hL1.web web_https
  have hs2 := hL2.web web_https
  clear hL1 hL2 h1 h2
  cases hw : isWeb sc
  · rw [(setJ_off (s := ⟨true, 3, sc, ho, pa, [_]⟩) hw).1] at hs1
    rw [(setJ_off (s := ⟨true, 3, sc, ho, pa, [_]⟩) hw).1, (setJ_off (s := ⟨true, 2, sc, ho, pa, [c]⟩) hw).1] at hs2
    rw [hs1.none (fun _ => rfl), hs2.none (fun _ => rfl)]
    exact ⟨rfl, by simp⟩
  · rw [(setJ_one (s := ⟨true, 3, sc, ho, pa, [_]⟩) rfl hw).1] at hs1
    rw [(setJ_one (s := ⟨true, 3, sc, ho, pa, [_]⟩) rfl hw).1, (setJ_one (s := ⟨true, 2, sc, ho, pa, [c]⟩) rfl hw).1] at hs2
    have e1 : hostOf ⟨false, 4, httpsB, ho, pa, []⟩ = hostOf ⟨true, 3, sc, ho, pa, [{ c with value := v }]⟩ := rfl
    have e2 : hostOf ⟨true, 2, sc, ho, pa, [c]⟩ = hostOf ⟨true, 3, sc, ho, pa, [{ c with value := v }]⟩ := rfl
    have e3 : defOf ⟨true, 2, sc, ho, pa, [c]⟩ = defOf ⟨true, 3, sc, ho, pa, [{ c with value := v }]⟩ := rfl
    rw [e1, updJ_at] at hs1
    rw [e1, e2, e3, updJ_at, updJ_at] at hs2
    generalize hostOf ⟨true, 3, sc, ho, pa, [{ c with value := v }]⟩ = host at *
    generalize defOf ⟨true, 3, sc, ho, pa, [{ c with value := v }]⟩ = defp at *
    have hr : ∀ t : Int, ¬ (c.maxAge < 0 ∨ (c.maxAge = 0 ∧ c.expires ≠ 0 ∧ c.expires ≤ t)) := fun t => by omega
    cases hdt : domTy psl host c.domain with
    | none =>
      have hdt' : domTy psl host ({ c with value := v } : PCookie).domain = none := hdt
      rw [newEnt_none hdt'] at hs1 hs2
      rw [newEnt_none hdt] at hs2
      rw [hs1.none (fun _ => rfl), hs2.none (fun _ => rfl)]
      exact ⟨rfl, by simp⟩
    | some p =>
      have hdt' : domTy psl host ({ c with value := v } : PCookie).domain = some p := hdt
      obtain ⟨ec, a1, a2, _⟩ := newEnt_some (defp := defp) (now := 2) hdt
      obtain ⟨ed, b1, b2, _⟩ := newEnt_some (defp := defp) (now := 3) hdt'
      rw [decide_eq_false (hr 2)] at a1
      rw [decide_eq_false (hr 3)] at b1
      have hid : entId ed = entId ec := by rw [a2, b2]; rfl
      rw [b1] at hs1 hs2
      rw [a1] at hs2
      have x1 : (setOne 3 (some (ed, false)) (noJar (keyOf psl host), 0)).1 = only (entId ec) { ed with cre := 3, seq := 0 } := by rw [← hid]; rfl
      have x2 : ∀ m, (setOne 3 (some (ed, false)) ((setOne 2 (some (ec, false)) (noJar (keyOf psl host), 0)).1, m)).1 = only (entId ec) { ed with cre := 2, seq := 0 } := by
        intro m
        have y : (setOne 2 (some (ec, false)) (noJar (keyOf psl host), 0)).1 = only (entId ec) { ec with cre := 2, seq := 0 } := rfl
        rw [y]
        have z : only (entId ec) { ec with cre := 2, seq := 0 } (entId ed) = some { ec with cre := 2, seq := 0 } := by rw [hid]; simp [only]
        simp only [setOne, z]
        funext k
        rw [hid]
        unfold updS only
        split <;> rfl
      rw [x1] at hs1
      rw [x2] at hs2
      have t1 := hs1.only
      have t2 := hs2.only
      have key : ∃ b : Bool, L1 = (if b = true then [{ ed with cre := 3, seq := 0 }] else []) ∧ L2 = (if b = true then [{ ed with cre := 2, seq := 0 }] else []) := ⟨_, t1, t2⟩
      obtain ⟨b, t1, t2⟩ := key
      rw [t1, t2]
      cases b
      · exact ⟨rfl, by simp⟩
      · exact ⟨rfl, by simp⟩
theorem domTy_own (psl : Option (List ByteArray)) (host : ByteArray) : domTy psl host ⟨#[]⟩ = some (host, true) := by unfold domTy; rw [if_pos rfl]
/-- A cookie set into a new jar, and cookies asked for: what is left of it. -/
theorem one_asked {psl : Option (List ByteArray)} {t u : Int} {sa ha pa sb hb pb : ByteArray} {c : PCookie} {o : List (List Ent)} (hw : isWeb sb = true)
    (h : RunRel psl noJar 0 [⟨true, t, sa, ha, pa, [c]⟩, ⟨false, u, sb, hb, pb, []⟩] o) :
    ∃ L, o = [L] ∧ Sent (setJ psl ⟨true, t, sa, ha, pa, [c]⟩ noJar 0 (keyOf psl (str (hostB (lst hb))))) u (isHttps sb) (str (hostB (lst hb))) (askPath pb) L := by
  obtain ⟨L, rfl, hL⟩ := h.sa rfl rfl
  exact ⟨L, rfl, hL.web hw⟩
theorem law_ends {sc ho pa : ByteArray} {c : PCookie} {t age : Int} {o : List (List Ent)} (hd : c.domain = ⟨#[]⟩) (hp : c.path = ⟨#[]⟩) (hm : c.maxAge = age) (ha : 0 < age) (hw : isWeb sc = true) (hpa : isPathB (lst pa) = true)
    (h : RunRel none noJar 0 [⟨true, 2, sc, ho, pa, [c]⟩, ⟨false, t, httpsB, ho, pa, []⟩] o) : ∃ L, o = [L] ∧ (decide (L.length = 1) = decide (t < 2 + age)) := by
  obtain ⟨L, rfl, hL⟩ := one_asked web_https h
  refine ⟨L, rfl, ?_⟩
  rw [(setJ_one rfl hw).1] at hL
  have e1 : hostOf ⟨true, 2, sc, ho, pa, [c]⟩ = str (hostB (lst ho)) := rfl
  rw [e1, updJ_at] at hL
  have hdt : domTy none (str (hostB (lst ho))) c.domain = some (str (hostB (lst ho)), true) := by rw [hd]; exact domTy_own _ _
  rcases set_first (psl := none) (host := str (hostB (lst ho))) (defp := defOf ⟨true, 2, sc, ho, pa, [c]⟩) (now := 2) (c := c) (n := 0) with hS | ⟨e, p, hp', _, hS, f1, f2, f3, f4, f5, f6, f7, f8, f9⟩
  · exfalso
    obtain ⟨e, h1, h2, _⟩ := newEnt_some (defp := defOf ⟨true, 2, sc, ho, pa, [c]⟩) (now := 2) hdt
    rw [h1, decide_eq_false (by omega)] at hS
    have := hS (entId e)
    simp [setOne, updS] at this
  · have hS' : (setOne (PStep.tm ⟨true, 2, sc, ho, pa, [c]⟩) (newEnt none (str (hostB (lst ho))) (defOf ⟨true, 2, sc, ho, pa, [c]⟩) (PStep.tm ⟨true, 2, sc, ho, pa, [c]⟩) c) (noJar (keyOf none (str (hostB (lst ho)))), 0)).1 = _ := hS
    rw [hS'] at hL
    rw [hdt] at hp'
    cases hp'
    have hsend : sendB e (isHttps httpsB) (str (hostB (lst ho))) (askPath pa) = true := by
      unfold sendB
      rw [isHttps_https, sec_https, pat_own ?_ hpa, domMatch, f1]
      · simp
      · rw [f4, pathOf, if_pos (Or.inl (by rw [hp]; rfl))]; rfl
    have hal : aliveE t e = decide (t < 2 + age) := by
      unfold aliveE
      rw [f7, f8 (by omega), hm, decide_eq_true (Or.inl (by omega))]; rfl
    rw [hL.only, hsend, hal, Bool.and_true]
    by_cases ht : t < 2 + age
    · simp [ht]
    · simp [ht]
theorem law_own {sa ha pa hb pb : ByteArray} {c : PCookie} {o : List (List Ent)} (hd : c.domain = ⟨#[]⟩) (hp : c.path = ⟨#[47]⟩) (hm : c.maxAge = 0) (he : c.expires = 0) (hw : isWeb sa = true) (hpb : isPathB (lst pb) = true)
    (h : RunRel (some []) noJar 0 [⟨true, 2, sa, ha, pa, [c]⟩, ⟨false, 3, httpsB, hb, pb, []⟩] o) : ∃ L, o = [L] ∧ decide (L.length = 1) = decide (hostB (lst ha) = hostB (lst hb)) := by
  obtain ⟨L, rfl, hL⟩ := one_asked web_https h
  refine ⟨L, rfl, ?_⟩
  rw [(setJ_one rfl hw).1] at hL
  have e1 : hostOf ⟨true, 2, sa, ha, pa, [c]⟩ = str (hostB (lst ha)) := rfl
  rw [e1] at hL
  have hdt : domTy (some []) (str (hostB (lst ha))) c.domain = some (str (hostB (lst ha)), true) := by rw [hd]; exact domTy_own _ _
  rcases set_first (psl := some []) (host := str (hostB (lst ha))) (defp := defOf ⟨true, 2, sa, ha, pa, [c]⟩) (now := 2) (c := c) (n := 0) with hS | ⟨e, p, hp', _, hS, f1, f2, f3, f4, f5, f6, f7, f8, f9⟩
  · exfalso
    obtain ⟨e, h1, h2, _⟩ := newEnt_some (defp := defOf ⟨true, 2, sa, ha, pa, [c]⟩) (now := 2) hdt
    rw [h1, decide_eq_false (by omega)] at hS
    have := hS (entId e)
    simp [setOne, updS] at this
  · have hS' : (setOne (PStep.tm ⟨true, 2, sa, ha, pa, [c]⟩) (newEnt (some []) (str (hostB (lst ha))) (defOf ⟨true, 2, sa, ha, pa, [c]⟩) (PStep.tm ⟨true, 2, sa, ha, pa, [c]⟩) c) (noJar (keyOf (some []) (str (hostB (lst ha)))), 0)).1 = _ := hS
    rw [hS'] at hL
    rw [hdt] at hp'
    cases hp'
    by_cases hh : hostB (lst ha) = hostB (lst hb)
    · rw [hh, updJ_at] at hL
      have hsend : sendB e (isHttps httpsB) (str (hostB (lst hb))) (askPath pb) = true := by
        unfold sendB
        rw [isHttps_https, sec_https, pat_root ?_ hpb, domMatch, f1, hh]
        · simp
        · rw [f4, pathOf, if_neg (by rw [hp]; decide)]; exact hp
      have hal : aliveE 3 e = true := by
        unfold aliveE
        rw [f7, decide_eq_false (by omega)]; rfl
      rw [hL.only, hsend, hal]
      simp [hh]
    · rw [decide_eq_false hh]
      have hns : ∀ https path, sendB e https (str (hostB (lst hb))) path = false := by
        intro https path
        have : domMatch e (str (hostB (lst hb))) = false := by
          unfold domMatch
          rw [f1, f2, decide_eq_false (fun x => hh (by simpa [lst_str] using congrArg lst x))]; rfl
        unfold sendB; rw [this]; rfl
      have : L = [] := by
        by_cases hk : keyOf (some []) (str (hostB (lst hb))) = keyOf (some []) (str (hostB (lst ha)))
        · rw [hk, updJ_at] at hL
          rw [hL.only, hns]; simp
        · rw [updJ_ne _ _ hk] at hL
          exact hL.none fun _ => rfl
      rw [this]; rfl
theorem law_suffix {sufs : List ByteArray} {sa ha pa hb pb : ByteArray} {c : PCookie} {o : List (List Ent)} (hne : hostB (lst ha) ≠ hostB (lst hb)) (hk : ∀ p, domTy (some sufs) (str (hostB (lst ha))) c.domain = some p → p = (str (hostB (lst ha)), true))
    (h : RunRel (some sufs) noJar 0 [⟨true, 2, sa, ha, pa, [c]⟩, ⟨false, 3, httpsB, hb, pb, []⟩] o) : o = [[]] := by
  obtain ⟨L, rfl, hL⟩ := one_asked web_https h
  have : L = [] := by
    cases hw : isWeb sa
    · rw [(setJ_off hw).1] at hL
      exact hL.none fun _ => rfl
    · rw [(setJ_one rfl hw).1] at hL
      have e1 : hostOf ⟨true, 2, sa, ha, pa, [c]⟩ = str (hostB (lst ha)) := rfl
      rw [e1] at hL
      by_cases hkk : keyOf (some sufs) (str (hostB (lst hb))) = keyOf (some sufs) (str (hostB (lst ha)))
      · rw [hkk, updJ_at] at hL
        rcases set_first (psl := some sufs) (host := str (hostB (lst ha))) (defp := defOf ⟨true, 2, sa, ha, pa, [c]⟩) (now := 2) (c := c) (n := 0) with hS | ⟨e, p, hp', _, hS, f1, f2, _⟩
        · exact hL.none hS
        · have hS' : (setOne (PStep.tm ⟨true, 2, sa, ha, pa, [c]⟩) (newEnt (some sufs) (str (hostB (lst ha))) (defOf ⟨true, 2, sa, ha, pa, [c]⟩) (PStep.tm ⟨true, 2, sa, ha, pa, [c]⟩) c) (noJar (keyOf (some sufs) (str (hostB (lst ha)))), 0)).1 = _ := hS
          rw [hS'] at hL
          have hpp := hk p hp'
          subst hpp
          have : domMatch e (str (hostB (lst hb))) = false := by
            unfold domMatch
            rw [f1, f2, decide_eq_false (fun x => hne (by simpa [lst_str] using congrArg lst x))]; rfl
          have hns : sendB e (isHttps httpsB) (str (hostB (lst hb))) (askPath pb) = false := by unfold sendB; rw [this]; rfl
          rw [hL.only, hns]; simp
      · rw [updJ_ne _ _ hkk] at hL
        exact hL.none fun _ => rfl
  rw [this]
/-- A domain where an insecure connection counts as secure. -/
def nearB (d : ByteArray) : Bool := isLocB d || ((ip4 (lst d)).2 && decide ((ip4 (lst d)).1 = 127))
theorem law_secure {psl : Option (List ByteArray)} {ho pa : ByteArray} {c : PCookie} {o1 o2 : List (List Ent)} (hk : ∀ p, domTy psl (str (hostB (lst ho))) c.domain = some p → nearB p.1 = false)
    (h1 : RunRel psl noJar 0 [⟨true, 2, httpsB, ho, pa, [c]⟩, ⟨false, 3, httpsB, ho, pa, []⟩] o1) (h2 : RunRel psl noJar 0 [⟨true, 2, httpsB, ho, pa, [c]⟩, ⟨false, 3, httpB, ho, pa, []⟩] o2) :
    ∃ L1 L2, o1 = [L1] ∧ o2 = [L2] ∧ (c.secure = true → L2 = []) ∧ (c.secure = false → L1 = L2) := by
  obtain ⟨L1, rfl, hL1⟩ := one_asked web_https h1
  obtain ⟨L2, rfl, hL2⟩ := one_asked web_http h2
  refine ⟨L1, L2, rfl, rfl, ?_⟩
  rw [(setJ_one rfl web_https).1] at hL1 hL2
  have e1 : hostOf ⟨true, 2, httpsB, ho, pa, [c]⟩ = str (hostB (lst ho)) := rfl
  rw [e1, updJ_at] at hL1 hL2
  rcases set_first (psl := psl) (host := str (hostB (lst ho))) (defp := defOf ⟨true, 2, httpsB, ho, pa, [c]⟩) (now := 2) (c := c) (n := 0) with hS | ⟨e, p, hp', _, hS, f1, f2, f3, f4, f5, f6, _⟩
  · rw [hL1.none hS, hL2.none hS]
    exact ⟨fun _ => rfl, fun _ => rfl⟩
  · have hS' : (setOne (PStep.tm ⟨true, 2, httpsB, ho, pa, [c]⟩) (newEnt psl (str (hostB (lst ho))) (defOf ⟨true, 2, httpsB, ho, pa, [c]⟩) (PStep.tm ⟨true, 2, httpsB, ho, pa, [c]⟩) c) (noJar (keyOf psl (str (hostB (lst ho)))), 0)).1 = _ := hS
    rw [hS'] at hL1 hL2
    rw [hL1.only, hL2.only]
    have hn := hk p hp'
    unfold nearB at hn
    rw [← f1] at hn
    constructor
    · intro hs
      have : secMatch e (isHttps httpB) = false := by
        unfold secMatch
        rw [isHttps_http, f6, hs, Bool.or_assoc, hn]; rfl
      have hns : sendB e (isHttps httpB) (str (hostB (lst ho))) (askPath pa) = false := by unfold sendB; rw [this]; simp
      rw [hns]; simp
    · intro hs
      have hse : e.secure = false := by rw [f6, hs]
      have : sendB e (isHttps httpB) (str (hostB (lst ho))) (askPath pa) = sendB e (isHttps httpsB) (str (hostB (lst ho))) (askPath pa) := by
        unfold sendB; rw [sec_not hse, sec_not hse]
      rw [this]
end Go.Proofs.YtcofblepdfjhjaaGreatDoor
