/- Lists of pairs in memory, and what the run of steps carries along. -/
import Derived.Test.YtcofblepdfjhjaaGreatDoorW26
import Derived.Deep.AppendLies
namespace Go.Proofs.YtcofblepdfjhjaaGreatDoor
open Go.RowKit
/-- A list of cookies that were sent, in memory; Q: where it lies. -/
def PairsAt (w : World) (Q : Nat → Prop) (v : Value) (ps : List (ByteArray × ByteArray)) : Prop :=
  ∃ ao b off cap, v = .slice ao ps.length cap ∧ (0 < ps.length → ao = some ⟨b, off, none⟩ ∧ b < w.heap.size ∧ Q b) ∧
    ∀ j p, ps[j]? = some p → w.cell? ⟨b, off + j * 2, none⟩ = some (.string p.1) ∧ w.cell? ⟨b, off + j * 2 + 1, none⟩ = some (.string p.2)
theorem PairsAt.chg {w w' : World} {Q Q' S : Nat → Prop} {v : Value} {ps : List (ByteArray × ByteArray)} (h : PairsAt w Q v ps) (hc : Chg S w w') (hn : ∀ b, b < w.heap.size → Q b → ¬ S b) (hQ : ∀ b, b < w.heap.size → Q b → Q' b) : PairsAt w' Q' v ps := by
  obtain ⟨ao, b, off, cap, h1, h2, h3⟩ := h
  refine ⟨ao, b, off, cap, h1, fun hl => ?_, fun j p hj => ?_⟩
  · obtain ⟨g1, g2, g3⟩ := h2 hl
    exact ⟨g1, Nat.lt_of_lt_of_le g2 hc.size, hQ b g2 g3⟩
  · obtain ⟨g1, g2, g3⟩ := h2 (by have := (List.getElem?_eq_some_iff.1 hj).1; omega)
    obtain ⟨e1, e2⟩ := h3 j p hj
    exact ⟨(hc.cell (p := ⟨b, off + j * 2, none⟩) g2 (hn b g2 g3)).trans e1, (hc.cell (p := ⟨b, off + j * 2 + 1, none⟩) g2 (hn b g2 g3)).trans e2⟩
/-- A list of lists. -/
def OutsAt (w : World) (Q : Nat → Prop) (v : Value) (pss : List (List (ByteArray × ByteArray))) : Prop :=
  ∃ ao b off cap, v = .slice ao pss.length cap ∧ (0 < pss.length → ao = some ⟨b, off, none⟩ ∧ b < w.heap.size ∧ Q b) ∧
    ∀ j ps, pss[j]? = some ps → ∃ u, w.cell? ⟨b, off + j, none⟩ = some u ∧ PairsAt w Q u ps
theorem OutsAt.chg {w w' : World} {Q Q' S : Nat → Prop} {v : Value} {pss : List (List (ByteArray × ByteArray))} (h : OutsAt w Q v pss) (hc : Chg S w w') (hn : ∀ b, b < w.heap.size → Q b → ¬ S b) (hQ : ∀ b, b < w.heap.size → Q b → Q' b) : OutsAt w' Q' v pss := by
  obtain ⟨ao, b, off, cap, h1, h2, h3⟩ := h
  refine ⟨ao, b, off, cap, h1, fun hl => ?_, fun j p hj => ?_⟩
  · obtain ⟨g1, g2, g3⟩ := h2 hl
    exact ⟨g1, Nat.lt_of_lt_of_le g2 hc.size, hQ b g2 g3⟩
  · obtain ⟨g1, g2, g3⟩ := h2 (by have := (List.getElem?_eq_some_iff.1 hj).1; omega)
    obtain ⟨u, e1, e2⟩ := h3 j p hj
    exact ⟨u, (hc.cell (p := ⟨b, off + j, none⟩) g2 (hn b g2 g3)).trans e1, e2.chg hc hn hQ⟩
/-- Each member of an owned row of slices is a list of pairs. -/
def RowsOK (w : World) (Q : Nat → Prop) (us : List Value) (pss : List (List (ByteArray × ByteArray))) : Prop := us.length = pss.length ∧ ∀ (j : Nat) (u : Value) (ps : List (ByteArray × ByteArray)), us[j]? = some u → pss[j]? = some ps → PairsAt w Q u ps
theorem RowsOK.chg {w w' : World} {Q Q' S : Nat → Prop} {us : List Value} {pss : List (List (ByteArray × ByteArray))} (h : RowsOK w Q us pss) (hc : Chg S w w') (hn : ∀ b, b < w.heap.size → Q b → ¬ S b) (hQ : ∀ b, b < w.heap.size → Q b → Q' b) : RowsOK w' Q' us pss :=
  ⟨h.1, fun j u ps h1 h2 => (h.2 j u ps h1 h2).chg hc hn hQ⟩
theorem RowsOK.snoc {w : World} {Q : Nat → Prop} {us : List Value} {pss : List (List (ByteArray × ByteArray))} (h : RowsOK w Q us pss) {u : Value} {ps : List (ByteArray × ByteArray)} (hu : PairsAt w Q u ps) : RowsOK w Q (us ++ [u]) (pss ++ [ps]) := by
  refine ⟨by simp [h.1], fun j x p h1 h2 => ?_⟩
  by_cases hj : j < us.length
  · rw [List.getElem?_append_left hj] at h1
    rw [List.getElem?_append_left (by rw [← h.1]; exact hj)] at h2
    exact h.2 j x p h1 h2
  · rw [List.getElem?_append_right (by omega)] at h1
    rw [List.getElem?_append_right (by rw [← h.1]; omega), ← h.1] at h2
    cases hq : j - us.length with
    | zero => rw [hq] at h1 h2; simp at h1 h2; subst h1; subst h2; exact hu
    | succ q => rw [hq] at h1; simp at h1
theorem addr_add (g j : Nat) : (⟨g, 0, none⟩ : Addr).add j = ⟨g, 0 + j, none⟩ := by
  unfold Addr.add
  by_cases hj0 : j = 0
  · subst hj0; simp
  · simp [hj0]
theorem outs_of_own {w : World} {base : Nat} {e : TypeId} {Q : Nat → Prop} {v : Value} {us : List Value} {pss : List (List (ByteArray × ByteArray))} (hown : w.ownsRow base e 1 v pss.length us) (hr : RowsOK w Q us pss) (hQ : ∀ b, v.ownBlock = some b → Q b) : OutsAt w Q v pss := by
  have hc := fun g hg => hown.cells (g := g) hg
  obtain ⟨hl, ⟨rfl, h0⟩ | ⟨g, cap, cur, rfl, hb, hh, _⟩⟩ := hown
  · exact ⟨none, 0, 0, 0, by rw [h0], fun h => by omega, fun j ps hj => by have := (List.getElem?_eq_some_iff.1 hj).1; omega⟩
  · refine ⟨_, g, 0, cap, rfl, fun _ => ⟨rfl, (Array.getElem?_eq_some_iff.1 hh).1, hQ g rfl⟩, fun j ps hj => ?_⟩
    have hjl : j < us.length := by rw [hr.1]; exact (List.getElem?_eq_some_iff.1 hj).1
    have hu : us[j]? = some us[j] := List.getElem?_eq_getElem hjl
    have h4 := hc g rfl j us[j] hu
    rw [addr_add] at h4
    exact ⟨us[j], h4, hr.2 j us[j] ps hu hj⟩
def pairC (p : ByteArray × ByteArray) : List Value := [.string p.1, .string p.2]
theorem pair_get : ∀ (L : List (ByteArray × ByteArray)) (i : Nat) (p : ByteArray × ByteArray), L[i]? = some p → (L.flatMap pairC)[i * 2]? = some (.string p.1) ∧ (L.flatMap pairC)[i * 2 + 1]? = some (.string p.2)
  | [], i, p, h => by simp at h
  | x :: r, 0, p, h => by simp at h; subst h; simp [pairC]
  | x :: r, i + 1, p, h => by
    have := pair_get r i p (by simpa using h)
    have e1 : (i + 1) * 2 = i * 2 + 2 := by omega
    rw [List.flatMap_cons, e1, List.getElem?_append_right (by simp [pairC]), List.getElem?_append_right (by simp [pairC])]
    have e2 : i * 2 + 2 - (pairC x).length = i * 2 := by simp [pairC]
    have e3 : i * 2 + 2 + 1 - (pairC x).length = i * 2 + 1 := by simp [pairC]
    rw [e2, e3]; exact this
theorem pairs_of_own {w : World} {base : Nat} {e : TypeId} {Q : Nat → Prop} {v : Value} {ps : List (ByteArray × ByteArray)} (hown : w.ownsRow base e 2 v ps.length (ps.flatMap pairC)) (hQ : ∀ b, v.ownBlock = some b → Q b) : PairsAt w Q v ps := by
  have hc := fun g hg => hown.cells (g := g) hg
  obtain ⟨hl, ⟨rfl, h0⟩ | ⟨g, cap, cur, rfl, hb, hh, _⟩⟩ := hown
  · exact ⟨none, 0, 0, 0, by rw [h0], fun h => by omega, fun j p hj => by have := (List.getElem?_eq_some_iff.1 hj).1; omega⟩
  · refine ⟨_, g, 0, cap, rfl, fun _ => ⟨rfl, (Array.getElem?_eq_some_iff.1 hh).1, hQ g rfl⟩, fun j p hj => ?_⟩
    obtain ⟨h1, h2⟩ := pair_get ps j p hj
    have h3 := hc g rfl _ _ h1
    have h4 := hc g rfl _ _ h2
    rw [addr_add] at h3 h4
    exact ⟨h3, by rw [Nat.zero_add] at h4 ⊢; exact h4⟩
theorem own_shape {w : World} {base : Nat} {e : TypeId} {sz : Nat} {v : Value} {n : Nat} {xs : List Value} (h : w.ownsRow base e sz v n xs) : ∃ ao cap, v = .slice ao n cap := by
  obtain ⟨_, ⟨rfl, h0⟩ | ⟨g, cap, cur, rfl, _⟩⟩ := h
  · exact ⟨none, 0, by rw [h0]⟩
  · exact ⟨_, cap, rfl⟩
theorem JarAt.bound {w : World} {jb n : Nat} {pv : Value} {F : Nat → Prop} {J : ByteArray → ByteArray → Option Ent} (h : JarAt w jb pv F J n) : JarAt w jb pv (fun b => F b ∧ b < w.heap.size) J n := by
  obtain ⟨bm, E, h1, h2, h3, h4, h5, h6, h7, h8, h9⟩ := h.ex
  refine ⟨bm, E, h1, h2, h3, ⟨h4, h6⟩, ⟨h5, h3.lt⟩, h6, h7, fun k v hk => ?_, h9⟩
  obtain ⟨b, M, g1, g2, g3, g4, g5⟩ := h8 k v hk
  exact ⟨b, M, g1, ⟨g2, g4.lt⟩, g3, g4, g5⟩
/-- Cookies of the jar's package, by pointers, laid one by one. -/
def CksOK (w : World) (base : Nat) (v : Value) (PS : List Nat) (cs : List PCookie) : Prop := ∀ (j b : Nat) (c : PCookie), PS[j]? = some b → cs[j]? = some c → base ≤ b ∧ b < w.heap.size ∧ v.ownBlock ≠ some b ∧ RowAt w b 0 (pkCells c)
theorem ptrs_of_own {w : World} {base : Nat} {e : TypeId} {Q : Nat → Prop} {v : Value} {PS : List Nat} {cs : List PCookie} (hown : w.ownsRow base e 1 v cs.length (PS.map ptrV)) (hPS : PS.length = cs.length) (hc : CksOK w base v PS cs) (hQ : ∀ b, base ≤ b → Q b) : PtrsAt w Q v cs := by
  have hcl := fun g hg => hown.cells (g := g) hg
  obtain ⟨hl, ⟨rfl, h0⟩ | ⟨g, cap, cur, rfl, hb, hh, _⟩⟩ := hown
  · exact ⟨none, 0, 0, 0, by rw [h0], fun h => by omega, fun j c hj => by have := (List.getElem?_eq_some_iff.1 hj).1; omega⟩
  · refine ⟨_, g, 0, cap, rfl, fun _ => ⟨rfl, (Array.getElem?_eq_some_iff.1 hh).1, hQ g hb⟩, fun j c hj => ?_⟩
    have hjl : j < PS.length := by rw [hPS]; exact (List.getElem?_eq_some_iff.1 hj).1
    have hp : PS[j]? = some PS[j] := List.getElem?_eq_getElem hjl
    generalize PS[j] = b at hp
    obtain ⟨h1, h2, _, h4⟩ := hc j b c hp hj
    have h3 := hcl g rfl j (ptrV b) (by rw [List.getElem?_map, hp]; rfl)
    rw [addr_add] at h3
    exact ⟨b, h3, h2, hQ b h1, h4⟩
theorem CksOK.step {w w' : World} {base b g cap m : Nat} {v : Value} {PS : List Nat} {cs : List PCookie} {c : PCookie} {k : Nat} (h : CksOK w base v PS cs) (hPS : PS.length = k) (hk : cs[k]? = some c) (hC : Chg (fun x => v.ownBlock = some x) w w') (hb : base ≤ b) (hbl : b < w.heap.size) (hr : RowAt w b 0 (pkCells c))
    (hg : v.ownBlock = some g ∨ w.heap.size ≤ g) (hvb : v.ownBlock ≠ some b) : CksOK w' base (.slice (some ⟨g, 0, none⟩) m cap) (PS ++ [b]) cs := by
  have key : ∀ x, x < w.heap.size → v.ownBlock ≠ some x → (Value.slice (some ⟨g, 0, none⟩) m cap).ownBlock ≠ some x := by
    intro x hx hv e
    have e' : g = x := Option.some.inj e
    rcases hg with hg | hg
    · rw [e'] at hg; exact hv hg
    · omega
  intro j x c' h1 h2
  by_cases hj : j < PS.length
  · rw [List.getElem?_append_left hj] at h1
    obtain ⟨g1, g2, g3, g4⟩ := h j x c' h1 h2
    exact ⟨g1, Nat.lt_of_lt_of_le g2 hC.size, key x g2 g3, g4.chg hC g2 g3⟩
  · rw [List.getElem?_append_right (by omega)] at h1
    have hj0 : j = k := by
      by_cases h0 : j - PS.length = 0
      · omega
      · obtain ⟨q, hq⟩ : ∃ q, j - PS.length = q + 1 := ⟨j - PS.length - 1, by omega⟩
        rw [hq] at h1; simp at h1
    subst hj0
    rw [hPS, Nat.sub_self] at h1
    simp only [List.getElem?_cons_zero, Option.some.injEq] at h1
    subst h1
    rw [hk] at h2
    cases h2
    exact ⟨hb, Nat.lt_of_lt_of_le hbl hC.size, key b hbl hvb, hr.chg hC hbl hvb⟩
theorem CksOK.chg {S : Nat → Prop} {w w' : World} {base : Nat} {v : Value} {PS : List Nat} {cs : List PCookie} (h : CksOK w base v PS cs) (hC : Chg S w w') (hS : ∀ b, base ≤ b → b < w.heap.size → ¬ S b) : CksOK w' base v PS cs := fun j b c h1 h2 => by
  obtain ⟨g1, g2, g3, g4⟩ := h j b c h1 h2
  exact ⟨g1, Nat.lt_of_lt_of_le g2 hC.size, g3, g4.chg hC g2 (hS b g1 g2)⟩
/-- What Run leaves. -/
def RunPost (psl : Option (List ByteArray)) (ss : List PStep) (w : World) (r : Ending) (w' : World) : Prop :=
  ∃ u o, r = .returned u ∧ RunRel psl noJar 0 ss o ∧ OutsAt w' (fun b => w.heap.size ≤ b) u (pairsOf o) ∧ Below w.heap.size w w'
theorem Tryz.infoPair : (Tryz.prog.info? 54).map (fun i => (i.zero, i.size, i.bytes)) = some (some (.agg #[.string ⟨#[]⟩, .string ⟨#[]⟩]), 2, 32) := by kernel_rfl
theorem Tryz.infoSlPair : (Tryz.prog.info? 37).map (fun i => (i.zero, i.size, i.bytes)) = some (some (.slice none 0 0), 1, 24) := by kernel_rfl
end Go.Proofs.YtcofblepdfjhjaaGreatDoor
