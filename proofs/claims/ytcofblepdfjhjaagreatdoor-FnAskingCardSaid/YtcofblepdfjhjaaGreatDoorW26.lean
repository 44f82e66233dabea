/- Walks: SetAt, CookiesAt. -/
import Derived.Test.YtcofblepdfjhjaaGreatDoorW25
namespace Go.Proofs.YtcofblepdfjhjaaGreatDoor
open Go.RowKit
theorem SentPtr.mono {w : World} {B B' : Nat} {v : Value} {L : List Ent} (h : SentPtr w B v L) (hB : B' ≤ B) : SentPtr w B' v L := by
  obtain ⟨ao, off, cap, rfl, h1⟩ := h
  refine ⟨ao, off, cap, rfl, fun hl => ?_⟩
  obtain ⟨b, h2, h3, h4, h5⟩ := h1 hl
  refine ⟨b, h2, by omega, h4, fun j e he => ?_⟩
  obtain ⟨cb, g1, g2, g3⟩ := h5 j e he
  exact ⟨cb, g1, by omega, g3⟩
set_option maxRecDepth 100000 in
set_option maxHeartbeats 1600000 in
theorem CookiesAt_any (psl : Option (List ByteArray)) (pv : Value) (B jb ub : Nat) (F : Nat → Prop) (J : ByteArray → ByteArray → Option Ent) (n : Nat) (s : PStep) (w : World)
    (hJ : JarAt w jb pv F J n) (hJO : JOK J n) (hP : PslAt w B pv psl) (hB : B ≤ w.heap.size) (hFw : ∀ b, F b → b < w.heap.size)
    (hu : RowAt w ub 0 [.string s.scheme, .string s.host, .string s.path]) (hub : ub < w.heap.size) (hok : StepOK s) (hn : n ≤ 1000000) :
    Calls Tryz.prog 37 #[.pointer (some ⟨jb, 0, none⟩), .pointer (some ⟨ub, 0, none⟩), tv s.tm] w (AskPost jb pv F (askJ psl s J) n (AskL psl J s) w) := by
  have hb := fun o => (Below.refl w.heap.size w).alloc (Nat.le_refl _) o
  have HA := fun W h1 h2 h3 h4 h5 h6 => cookies_any psl pv B jb ub F J n s W h1 hJO h2 h3 h4 h5 h6 hok hn
  unfold tv at HA ⊢
  generalize hJ' : askJ psl s J = J' at *
  generalize hQ : AskL psl J s = Q at *
  generalize s.tm = now at *
  clear hJ' hQ
  go_enter Tryz.func37, Tryz.ntmps37
  go_wp2_with fail
  refine (HA _ (hJ.chg (Chg.of_new (hb _) (fun _ => False)) (fun _ _ e => e)) (hP.below (hb _) hB) (by simp; omega) (fun b h => by have := hFw b h; simp; omega) (hu.below (hb _) hub) (by simp; omega)).mono ?_
  rintro r w2 ⟨v, L, F', rfl, h1, h2, h3, h4, h5⟩
  have H2 := Lib.hid h2
  have hC := Chg.trans (Chg.of_new (hb _) F) h4 (fun _ _ e => e)
  clear h4 h2 hJ
  go_wp2
  go_returns
  exact ⟨v, L, F', rfl, h1, H2.out.mono (by simp), h3, hC, h5⟩
set_option maxRecDepth 100000 in
set_option maxHeartbeats 1600000 in
theorem SetAt_any (psl : Option (List ByteArray)) (pv ev v : Value) (B jb ub : Nat) (F : Nat → Prop) (J : ByteArray → ByteArray → Option Ent) (n : Nat) (s : PStep) (te : TypeId) (pe : Value) (w : World)
    (hJ : JarAt w jb pv F J n) (hP : PslAt w B pv psl) (hB : B ≤ w.heap.size) (hB0 : 0 < B) (hFB : ∀ b, F b → B ≤ b) (hev : ev = .iface te pe) (hg : w.cell? ⟨0, 0, none⟩ = some ev)
    (hu : RowAt w ub 0 [.string s.scheme, .string s.host, .string s.path]) (hub : ub < w.heap.size) (hv : PtrsAt w (fun b => ¬ F b) v s.cookies) (hok : StepOK s) (hn : n + s.cookies.length < 9223372036854775807) :
    Calls Tryz.prog 39 #[.pointer (some ⟨jb, 0, none⟩), .pointer (some ⟨ub, 0, none⟩), v, tv s.tm] w (SetPost jb pv F (setJ psl s J n) (setN psl s J n) w) := by
  have hb := fun o => (Below.refl w.heap.size w).alloc (Nat.le_refl _) o
  have HA := fun W h1 h2 h3 h4 h5 h6 h7 => setCookies_any psl pv ev v B jb ub F J n s.scheme s.host s.path (splitB (lst s.host)).1 s.cookies s.tm te pe W h1 h2 h3 hB0 hFB hev h4 h5 h6 h7 hok.ho hok.pa hok.host hok.tm hok.len hn hok.cks
  have e1 : setJ psl s J n = if s.cookies = [] ∨ isWeb s.scheme = false then J else updJ J (keyOf psl (str (low (splitB (lst s.host)).1))) (setList psl (str (low (splitB (lst s.host)).1)) (str (defPath (lst s.path))) s.tm s.cookies (J (keyOf psl (str (low (splitB (lst s.host)).1))), n)).1 := rfl
  have e2 : setN psl s J n = if s.cookies = [] ∨ isWeb s.scheme = false then n else (setList psl (str (low (splitB (lst s.host)).1)) (str (defPath (lst s.path))) s.tm s.cookies (J (keyOf psl (str (low (splitB (lst s.host)).1))), n)).2 := rfl
  rw [← e1, ← e2] at HA
  clear e1 e2
  unfold tv at HA ⊢
  generalize setJ psl s J n = J' at *
  generalize setN psl s J n = n' at *
  generalize s.tm = now at *
  have hPv : ∀ o, PtrsAt (w.alloc o) (fun b => ¬ F b) v s.cookies := fun o => by
    obtain ⟨ao, b, off, cap, h1, h2, h3⟩ := hv
    refine ⟨ao, b, off, cap, h1, fun h => ⟨(h2 h).1, by have := (h2 h).2.1; simp; omega, (h2 h).2.2⟩, fun j c hj => ?_⟩
    obtain ⟨cb, g1, g2, g3, g4⟩ := h3 j c hj
    have hbl : b < w.heap.size := (h2 (by have := (List.getElem?_eq_some_iff.1 hj).1; omega)).2.1
    exact ⟨cb, ((hb o).cell (p := ⟨b, off + j, none⟩) hbl).trans g1, by simp; omega, g3, g4.below (hb o) g2⟩
  have HPV := Lib.hid hPv
  clear hPv hv
  go_enter Tryz.func39, Tryz.ntmps39
  go_wp2_with fail
  refine (HA _ (hJ.chg (Chg.of_new (hb _) (fun _ => False)) (fun _ _ e => e)) (hP.below (hb _) hB) (by simp; omega) (((hb _).cell (p := ⟨0, 0, none⟩) (by simp; omega)).trans hg) (hu.below (hb _) hub) (by simp; omega) (HPV.out _)).mono ?_
  rintro r w2 ⟨rfl, F', h3, h4, h5⟩
  have hC := Chg.trans (Chg.of_new (hb _) F) h4 (fun _ _ e => e)
  clear h4 hJ HPV HA
  go_wp2
  go_returns
  exact ⟨rfl, F', h3, hC, fun b hb' => by rcases h5 b hb' with h | h; exact Or.inl h; right; simp at h; omega⟩
end Go.Proofs.YtcofblepdfjhjaaGreatDoor
