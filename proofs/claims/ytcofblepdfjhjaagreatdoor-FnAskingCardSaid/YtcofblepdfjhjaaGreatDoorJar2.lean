/- A jar in memory, one key's map taken out; what stores and deletions leave. No program in sight but the map types. -/
import Derived.Test.YtcofblepdfjhjaaGreatDoorJar
namespace Go.Proofs.YtcofblepdfjhjaaGreatDoor
open Go.RowKit
/-- The jar but for the map of one key; G: its blocks. -/
structure JarRest (w : World) (jb : Nat) (pv : Value) (G : Nat → Prop) (J : ByteArray → ByteArray → Option Ent) (n : Nat) (key : ByteArray) (bm : Nat) (E : ByteArray → Option Value) : Prop where
  row : RowAt w jb 0 [pv, .map (some bm), .int .u64 n]
  loose : Loose w jb
  map : MapIs w bm E
  gj : G jb
  gb : G bm
  lt : jb < w.heap.size
  out : ∀ k, k ≠ key → E k = none → ∀ id, J k id = none
  ins : ∀ k v, k ≠ key → E k = some v → ∃ b M, v = .map (some b) ∧ G b ∧ b ≠ bm ∧ MapIs w b M ∧ EntMap M (J k)
  inj : ∀ k k' v, E k = some v → E k' = some v → k = k'
def updJ (J : ByteArray → ByteArray → Option Ent) (key : ByteArray) (S : ByteArray → Option Ent) : ByteArray → ByteArray → Option Ent := fun k => if k = key then S else J k
theorem updJ_same (J : ByteArray → ByteArray → Option Ent) (key : ByteArray) : updJ J key (J key) = J := by
  funext k
  by_cases h : k = key
  · subst h; simp [updJ]
  · simp [updJ, h]
section
variable {w w' : World} {jb bm n : Nat} {pv : Value} {F G : Nat → Prop} {J : ByteArray → ByteArray → Option Ent} {key : ByteArray} {E : ByteArray → Option Value}
theorem JarRest.chg {S : Nat → Prop} (h : JarRest w jb pv G J n key bm E) (hc : Chg S w w') (hn : ∀ b, G b → ¬ S b) : JarRest w' jb pv G J n key bm E :=
  { row := h.row.chg hc h.lt (hn _ h.gj), loose := h.loose.chg hc h.lt (hn _ h.gj), map := h.map.chg hc (hn _ h.gb), gj := h.gj, gb := h.gb, lt := Nat.lt_of_lt_of_le h.lt hc.size, out := h.out, inj := h.inj,
    ins := fun k v hk hv => by
      obtain ⟨b, M, g1, g2, g3, g4, g5⟩ := h.ins k v hk hv
      exact ⟨b, M, g1, g2, g3, g4.chg hc (hn _ g2), g5⟩ }
theorem row_ne_map {us : List Value} {b o : Nat} {b' : Nat} {M : ByteArray → Option Value} (h : RowAt w b o us) (hu : us ≠ []) (hm : MapIs w b' M) : b ≠ b' := by
  rintro rfl
  obtain ⟨es, clock, hb, _⟩ := hm
  match us, hu with
  | u :: r, _ =>
    have := h 0 u rfl
    simp [World.cell?, hb] at this
theorem cell_ne_map {u : Value} {b o : Nat} {b' : Nat} {M : ByteArray → Option Value} (h : w.cell? ⟨b, o, none⟩ = some u) (hm : MapIs w b' M) : b ≠ b' := by
  rintro rfl
  obtain ⟨es, clock, hb, _⟩ := hm
  simp [World.cell?, hb] at h
theorem JarRest.jne (h : JarRest w jb pv G J n key bm E) : jb ≠ bm := row_ne_map h.row (by simp) h.map
theorem JarAt.open (h : JarAt w jb pv F J n) (key : ByteArray) : ∃ bm E G, JarRest w jb pv G J n key bm E ∧ (∀ x, G x → F x ∧ x < w.heap.size) ∧
    ((E key = none ∧ ∀ id, J key id = none) ∨ ∃ b M, E key = some (.map (some b)) ∧ F b ∧ ¬ G b ∧ b ≠ bm ∧ MapIs w b M ∧ EntMap M (J key)) := by
  obtain ⟨bm, E, h1, h2, h3, h4, h5, h6, h7, h8, h9⟩ := h.ex
  refine ⟨bm, E, fun x => x = jb ∨ x = bm ∨ ∃ k b, k ≠ key ∧ E k = some (.map (some b)) ∧ x = b, ⟨h1, h2, h3, Or.inl rfl, Or.inr (Or.inl rfl), h6, fun k _ hk => h7 k hk, fun k v hk hv => ?_, h9⟩, ?_, ?_⟩
  · obtain ⟨b, M, g1, g2, g3, g4, g5⟩ := h8 k v hv
    exact ⟨b, M, g1, Or.inr (Or.inr ⟨k, b, hk, by rw [hv, g1], rfl⟩), g3, g4, g5⟩
  · rintro x (rfl | rfl | ⟨k, b, _, hk, rfl⟩)
    · exact ⟨h4, h6⟩
    · exact ⟨h5, h3.lt⟩
    · obtain ⟨b', M, g1, g2, _, g4, _⟩ := h8 k _ hk
      cases g1; exact ⟨g2, g4.lt⟩
  · cases hE : E key with
    | none => exact Or.inl ⟨rfl, h7 key hE⟩
    | some v =>
      right
      obtain ⟨b, M, g1, g2, g3, g4, g5⟩ := h8 key v hE
      refine ⟨b, M, by rw [g1], g2, ?_, g3, g4, g5⟩
      rintro (rfl | rfl | ⟨k, b', hk, hk', rfl⟩)
      · exact row_ne_map h1 (by simp) g4 rfl
      · exact g3 rfl
      · exact hk (h9 k key _ hk' (by rw [hE, g1]))
theorem JarRest.close_some (h : JarRest w jb pv G J n key bm E) {b : Nat} {M : ByteArray → Option Value} {S : ByteArray → Option Ent} (hE : E key = some (.map (some b))) (hb : b ≠ bm) (hm : MapIs w b M) (hs : EntMap M S) :
    JarAt w jb pv (fun x => G x ∨ x = b) (updJ J key S) n := by
  refine ⟨bm, E, h.row, h.loose, h.map, Or.inl h.gj, Or.inl h.gb, h.lt, fun k hk => ?_, fun k v hv => ?_, h.inj⟩
  · by_cases e : k = key
    · subst e; rw [hE] at hk; cases hk
    · intro id; simp [updJ, e, h.out k e hk id]
  · by_cases e : k = key
    · subst e
      rw [hE] at hv; cases hv
      exact ⟨b, M, rfl, Or.inr rfl, hb, hm, by simpa [updJ] using hs⟩
    · obtain ⟨b', M', g1, g2, g3, g4, g5⟩ := h.ins k v e hv
      exact ⟨b', M', g1, Or.inl g2, g3, g4, by simpa [updJ, e] using g5⟩
theorem JarRest.close_none (h : JarRest w jb pv G J n key bm E) {S : ByteArray → Option Ent} (hE : E key = none) (hs : ∀ id, S id = none) : JarAt w jb pv G (updJ J key S) n := by
  refine ⟨bm, E, h.row, h.loose, h.map, h.gj, h.gb, h.lt, fun k hk => ?_, fun k v hv => ?_, h.inj⟩
  · by_cases e : k = key
    · subst e; intro id; simp [updJ, hs]
    · intro id; simp [updJ, e, h.out k e hk id]
  · by_cases e : k = key
    · subst e; rw [hE] at hv; cases hv
    · obtain ⟨b', M', g1, g2, g3, g4, g5⟩ := h.ins k v e hv
      exact ⟨b', M', g1, g2, g3, g4, by simpa [updJ, e] using g5⟩
theorem upd_same (M : ByteArray → Option Value) (s : ByteArray) (o : Option Value) : upd M s o s = o := by simp [upd]
theorem upd_other (M : ByteArray → Option Value) {s k : ByteArray} (o : Option Value) (h : k ≠ s) : upd M s o k = M k := by simp [upd, h]
/-- The key's map is put (back) into the jar. -/
theorem JarRest.store_key {P : Program} {t tk te : TypeId} (h : JarRest w jb pv G J n key bm E) (ht : P.underlying t = some (.map tk te)) (hk : P.underlying tk = some .string) {b : Nat} (hb : ¬ G b) :
    ∃ w', (Instr.mapUpdate t (.map (some bm)) (.string key) (.map (some b))).run P w = .ok () w' ∧ JarRest w' jb pv G J n key bm (upd E key (some (.map (some b)))) ∧ Chg (· = bm) w w' ∧ w'.heap.size = w.heap.size := by
  obtain ⟨w', h1, h2, h3, h4⟩ := h.map.store ht hk key (.map (some b))
  refine ⟨w', h1, ?_, h3, h4⟩
  refine { row := h.row.chg h3 h.lt h.jne, loose := h.loose.chg h3 h.lt h.jne, map := h2, gj := h.gj, gb := h.gb, lt := by rw [h4]; exact h.lt, out := fun k e hk => h.out k e (by rwa [upd_other _ _ e] at hk), ins := fun k v e hv => ?_, inj := fun k k' v hv hv' => ?_ }
  · rw [upd_other _ _ e] at hv
    obtain ⟨b', M', g1, g2, g3, g4, g5⟩ := h.ins k v e hv
    exact ⟨b', M', g1, g2, g3, g4.chg h3 g3, g5⟩
  · by_cases e : k = key
    · by_cases e' : k' = key
      · rw [e, e']
      · subst e
        rw [upd_same] at hv
        rw [upd_other _ _ e'] at hv'
        cases hv
        obtain ⟨b', _, g1, g2, _⟩ := h.ins k' _ e' hv'
        cases g1
        exact absurd g2 hb
    · by_cases e' : k' = key
      · subst e'
        rw [upd_same] at hv'
        rw [upd_other _ _ e] at hv
        cases hv'
        obtain ⟨b', _, g1, g2, _⟩ := h.ins k _ e hv
        cases g1
        exact absurd g2 hb
      · rw [upd_other _ _ e] at hv
        rw [upd_other _ _ e'] at hv'
        exact h.inj k k' v hv hv'
/-- The key's map is taken out of the jar. -/
theorem JarRest.drop_key {P : Program} {t tk te : TypeId} (h : JarRest w jb pv G J n key bm E) (ht : P.underlying t = some (.map tk te)) (hk : P.underlying tk = some .string) (ty : TypeId) :
    ∃ w', (Builtin.delete_ #[t, tk] ty #[.map (some bm), .string key]).run P w = .ok (.tuple #[]) w' ∧ JarRest w' jb pv G J n key bm (upd E key none) ∧ Chg (· = bm) w w' ∧ w'.heap.size = w.heap.size := by
  obtain ⟨w', h1, h2, h3, h4⟩ := h.map.drop ht hk key ty
  refine ⟨w', h1, ?_, h3, h4⟩
  refine { row := h.row.chg h3 h.lt h.jne, loose := h.loose.chg h3 h.lt h.jne, map := h2, gj := h.gj, gb := h.gb, lt := by rw [h4]; exact h.lt, out := fun k e hk => h.out k e (by rwa [upd_other _ _ e] at hk), ins := fun k v e hv => ?_, inj := fun k k' v hv hv' => ?_ }
  · rw [upd_other _ _ e] at hv
    obtain ⟨b', M', g1, g2, g3, g4, g5⟩ := h.ins k v e hv
    exact ⟨b', M', g1, g2, g3, g4.chg h3 g3, g5⟩
  · by_cases e : k = key
    · subst e; rw [upd_same] at hv; cases hv
    · by_cases e' : k' = key
      · subst e'; rw [upd_same] at hv'; cases hv'
      · rw [upd_other _ _ e] at hv
        rw [upd_other _ _ e'] at hv'
        exact h.inj k k' v hv hv'
/-- The jar's next number. -/
theorem JarRest.set_n (h : JarRest w jb pv G J n key bm E) (n' : Nat) : JarRest (w.setCell ⟨jb, 2, none⟩ (.int .u64 n')) jb pv G J n' key bm E := by
  have hc : Chg (· = jb) w (w.setCell ⟨jb, 2, none⟩ (.int .u64 n')) := (Chg.refl (fun x => x = jb) w).setCell (p := ⟨jb, 2, none⟩) (Or.inl rfl) _
  refine { row := h.row.set 2 (.int .u64 n'), loose := h.loose.setCell _ _, map := h.map.chg hc (Ne.symm h.jne), gj := h.gj, gb := h.gb, lt := Nat.lt_of_lt_of_le h.lt hc.size, out := h.out, inj := h.inj, ins := fun k v hk hv => ?_ }
  obtain ⟨b, M, g1, g2, g3, g4, g5⟩ := h.ins k v hk hv
  exact ⟨b, M, g1, g2, g3, g4.chg hc (Ne.symm (row_ne_map h.row (by simp) g4)), g5⟩
/-- Entries, one turned. -/
def updS (S : ByteArray → Option Ent) (id : ByteArray) (o : Option Ent) : ByteArray → Option Ent := fun k => if k = id then o else S k
theorem EntMap.put {M : ByteArray → Option Value} {S : ByteArray → Option Ent} (h : EntMap M S) (id : ByteArray) (e : Ent) (la : Int) : EntMap (upd M id (some (entVal e la))) (updS S id (some e)) := by
  intro k
  by_cases hk : k = id
  · subst hk; simp only [upd, updS, if_pos]; exact ⟨fun h => (by cases h), fun e' h => (by cases h; exact ⟨la, rfl⟩)⟩
  · simpa [upd, updS, hk] using h k
theorem EntMap.del {M : ByteArray → Option Value} {S : ByteArray → Option Ent} (h : EntMap M S) (id : ByteArray) : EntMap (upd M id none) (updS S id none) := by
  intro k
  by_cases hk : k = id
  · subst hk; simp [upd, updS]
  · simpa [upd, updS, hk] using h k
theorem EntMap.empty : EntMap (fun _ => none) (fun _ => none) := fun _ => ⟨fun _ => rfl, fun e h => by cases h⟩
theorem EntMap.none_iff {M : ByteArray → Option Value} {S : ByteArray → Option Ent} (h : EntMap M S) : (∀ s, M s = none) ↔ ∀ s, S s = none := by
  constructor
  · intro hM s
    cases hS : S s with
    | none => rfl
    | some e => obtain ⟨la, hla⟩ := (h s).2 e hS; rw [hM s] at hla; cases hla
  · exact fun hS s => (h s).1 (hS s)
end
end Go.Proofs.YtcofblepdfjhjaaGreatDoor
