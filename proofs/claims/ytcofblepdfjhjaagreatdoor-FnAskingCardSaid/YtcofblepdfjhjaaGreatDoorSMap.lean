/- Maps keyed by strings, whatever their elements: what a block holds as a function of the key; look-up, store, delete, length, ranging, as equations on the runs. No program in sight. -/
import Derived.Test.YtcofblepdfjhjaaGreatDoorPlain
import Derived.Maps.RangeWalk
namespace Go.Proofs.YtcofblepdfjhjaaGreatDoor
open Go.RowKit Go.MapKept
open Go.ChangeMaps (setBlock)
/-- From w to w' nothing has turned but blocks of S and new ones. -/
structure Chg (S : Nat → Prop) (w w' : World) : Prop where
  os : w'.os = w.os
  tape : w'.tape = w.tape
  output : w'.output = w.output
  size : w.heap.size ≤ w'.heap.size
  block : ∀ k, k < w.heap.size → ¬ S k → w'.heap[k]? = w.heap[k]?
theorem Chg.refl (S : Nat → Prop) (w : World) : Chg S w w := ⟨rfl, rfl, rfl, Nat.le_refl _, fun _ _ _ => rfl⟩
theorem Chg.trans {S S' : Nat → Prop} {a b c : World} (h : Chg S a b) (k : Chg S' b c) (hS : ∀ i, i < a.heap.size → S' i → S i) : Chg S a c :=
  ⟨k.os.trans h.os, k.tape.trans h.tape, k.output.trans h.output, Nat.le_trans h.size k.size, fun i hi hn => (k.block i (Nat.lt_of_lt_of_le hi h.size) (fun e => hn (hS i hi e))).trans (h.block i hi hn)⟩
theorem Chg.mono {S S' : Nat → Prop} {a b : World} (h : Chg S a b) (hS : ∀ i, i < a.heap.size → S i → S' i) : Chg S' a b :=
  ⟨h.os, h.tape, h.output, h.size, fun i hi hn => h.block i hi (fun e => hn (hS i hi e))⟩
theorem Chg.of_below {B : Nat} {a b : World} (h : Below B a b) : Chg (fun k => B ≤ k) a b := ⟨h.os, h.tape, h.output, h.size, fun k _ hn => h.block k (by omega)⟩
theorem Chg.of_new {a b : World} (h : Below a.heap.size a b) (S : Nat → Prop) : Chg S a b := (Chg.of_below h).mono fun i hi e => absurd e (by omega)
theorem Chg.below {S : Nat → Prop} {B : Nat} {a b : World} (h : Chg S a b) (hB : B ≤ a.heap.size) (hS : ∀ k, S k → B ≤ k) : Below B a b :=
  ⟨h.os, h.tape, h.output, h.size, fun k hk => h.block k (by omega) (fun e => by have := hS k e; omega)⟩
theorem Chg.of_grown {a b : World} {row : Option Nat} (h : a.grownBy b row) : Chg (fun k => row = some k) a b := ⟨h.os, h.tape, h.output, h.size, fun k hk hn => h.block k hk (fun e => hn e.symm)⟩
theorem Chg.alloc {S : Nat → Prop} {a b : World} (h : Chg S a b) (o : Obj) : Chg S a (b.alloc o) :=
  h.trans (Chg.of_new ((Below.refl _ _).alloc (Nat.le_refl _) o) S) fun _ _ e => e
theorem Chg.setCell {S : Nat → Prop} {a b : World} (h : Chg S a b) {p : Addr} (hp : S p.block ∨ a.heap.size ≤ p.block) (u : Value) : Chg S a (b.setCell p u) :=
  ⟨h.os, h.tape, h.output, Nat.le_trans h.size (by simp [World.setCell]), fun k hk hn => (Below.heap_setCell _ _ _ _ (fun e => by rcases hp with hp | hp; exact hn (e ▸ hp); omega)).trans (h.block k hk hn)⟩
theorem Chg.drew {S : Nat → Prop} {a b : World} (h : Chg S a b) : Chg S a b.drew := ⟨h.os, h.tape, h.output, h.size, h.block⟩
theorem Chg.cell {S : Nat → Prop} {a b : World} (h : Chg S a b) {p : Addr} (hp : p.block < a.heap.size) (hn : ¬ S p.block) : b.cell? p = a.cell? p := World.cell?_of_block (w := a) (h.block p.block hp hn)
theorem Chg.frozen {S : Nat → Prop} {a b : World} (h : Chg S a b) {p : Addr} (hp : p.block < a.heap.size) (hn : ¬ S p.block) : b.frozen? p = a.frozen? p := World.frozen?_of_block (w := a) (h.block p.block hp hn)
/-- One key's element turned. -/
def upd (M : ByteArray → Option Value) (s : ByteArray) (o : Option Value) : ByteArray → Option Value := fun k => if k = s then o else M k
def SMap (es : Array MapEntry) (M : ByteArray → Option Value) : Prop :=
  (∀ x ∈ es.toList, ∃ k, x.key = .string k ∧ M k = some x.val) ∧ ∀ k v, M k = some v → ∃ x ∈ es.toList, x.key = .string k ∧ x.val = v
/-- Block b is a map that holds M. -/
def MapIs (w : World) (b : Nat) (M : ByteArray → Option Value) : Prop := ∃ es clock, w.heap[b]? = some (.map es clock) ∧ Stamped es clock ∧ SMap es M
theorem MapIs.lt {w : World} {b : Nat} {M : ByteArray → Option Value} (h : MapIs w b M) : b < w.heap.size := by
  obtain ⟨es, clock, hb, _⟩ := h
  exact (Array.getElem?_eq_some_iff.1 hb).1
theorem MapIs.same {w w' : World} {b : Nat} {M : ByteArray → Option Value} (h : MapIs w b M) (hb : w'.heap[b]? = w.heap[b]?) : MapIs w' b M := by
  obtain ⟨es, clock, h1, h2, h3⟩ := h
  exact ⟨es, clock, hb.trans h1, h2, h3⟩
theorem MapIs.chg {S : Nat → Prop} {w w' : World} {b : Nat} {M : ByteArray → Option Value} (h : MapIs w b M) (hc : Chg S w w') (hn : ¬ S b) : MapIs w' b M := h.same (hc.block b h.lt hn)
theorem MapIs.made (w : World) : MapIs (w.alloc (.map #[] 0)) w.heap.size (fun _ => none) :=
  ⟨#[], 0, (heap_alloc w _).1, stamped_empty 0, fun x hx => by simp at hx, fun _ _ h => by cases h⟩
theorem SMap.isKey {es : Array MapEntry} {M : ByteArray → Option Value} (h : SMap es M) : ∀ x ∈ es.toList, IsKey .string x.key := by
  intro x hx
  obtain ⟨k, hk, _⟩ := h.1 x hx
  rw [hk]; trivial
section
variable {P : Program} {w : World} {b : Nat} {M : ByteArray → Option Value} {t k e : TypeId}
/-- The search for a key. -/
theorem SMap.find {es : Array MapEntry} (h : SMap es M) (hk : P.underlying k = some .string) (s : ByteArray) (W : World) :
    (M s = none ∧ (Instr.findKey k (.string s) es.toList).run P W = .ok none W ∧ ∀ x ∈ es.toList, x.key ≠ .string s) ∨
    ∃ j x, M s = some x.val ∧ (Instr.findKey k (.string s) es.toList).run P W = .ok (some (j, x.val)) W ∧ es[j]? = some x ∧ x.key = .string s := by
  rcases findNow_spec (d := .string) (k := .string s) trivial es.toList 0 h.isKey with ⟨h1, h2⟩ | ⟨j, x, h1, h2, h3⟩
  · left
    refine ⟨?_, run_findKey hk h1, h2⟩
    cases hM : M s with
    | none => rfl
    | some v =>
      obtain ⟨x, hx, hxk, _⟩ := h.2 s v hM
      exact absurd hxk (h2 x hx)
  · right
    rw [Nat.zero_add] at h1
    have hj : es[j]? = some x := by simpa using h2
    refine ⟨j, x, ?_, run_findKey hk h1, hj, h3⟩
    obtain ⟨k', hk', hM⟩ := h.1 x (Array.mem_toList_iff.2 (Array.mem_of_getElem? hj))
    rw [h3] at hk'
    cases hk'
    exact hM
theorem MapIs.lookup (h : MapIs w b M) (ht : P.underlying t = some (.map k e)) (hk : P.underlying k = some .string) {z : Value} (hz : (zeroValue e).run P w = .ok z w) (s : ByteArray) :
    (Instr.lookup t (.map (some b)) (.string s) false).run P w = .ok ((M s).getD z) w := by
  obtain ⟨es, clock, hb, hst, hm⟩ := h
  rcases hm.find hk s w with ⟨h1, h2, _⟩ | ⟨j, x, h1, h2, _⟩
  · simp [Instr.lookup, run_underlying ht, MapKept.run_getObj_map hb, run_checkKey (d := .string) (k := .string s) hk trivial, h2, hz, h1, Result.andThen]
  · simp [Instr.lookup, run_underlying ht, MapKept.run_getObj_map hb, run_checkKey (d := .string) (k := .string s) hk trivial, h2, h1, Result.andThen]
theorem MapIs.lookup_ok (h : MapIs w b M) (ht : P.underlying t = some (.map k e)) (hk : P.underlying k = some .string) {z : Value} (hz : (zeroValue e).run P w = .ok z w) (s : ByteArray) :
    (Instr.lookup t (.map (some b)) (.string s) true).run P w = .ok (.tuple #[(M s).getD z, .bool (M s).isSome]) w := by
  obtain ⟨es, clock, hb, hst, hm⟩ := h
  rcases hm.find hk s w with ⟨h1, h2, _⟩ | ⟨j, x, h1, h2, _⟩
  · simp [Instr.lookup, run_underlying ht, MapKept.run_getObj_map hb, run_checkKey (d := .string) (k := .string s) hk trivial, h2, hz, h1, Result.andThen]
  · simp [Instr.lookup, run_underlying ht, MapKept.run_getObj_map hb, run_checkKey (d := .string) (k := .string s) hk trivial, h2, h1, Result.andThen]
theorem setBlock_at {o o' : Obj} (hb : w.heap[b]? = some o) : (setBlock w b o').heap[b]? = some o' := (heap_set hb).1
theorem chg_setBlock {o : Obj} (hb : w.heap[b]? = some o) (o' : Obj) : Chg (· = b) w (setBlock w b o') :=
  ⟨rfl, rfl, rfl, by simp [setBlock], fun i _ hn => (heap_set hb).2 i hn⟩
/-- The entries of a map after a store. -/
theorem smap_push {es : Array MapEntry} (h : SMap es M) (s : ByteArray) (v : Value) (c : Nat) (hn : ∀ x ∈ es.toList, x.key ≠ .string s) : SMap (es.push { key := .string s, val := v, born := c }) (upd M s (some v)) := by
  refine ⟨fun x hx => ?_, fun k' v' hv => ?_⟩
  · simp only [Array.toList_push, List.mem_append, List.mem_singleton] at hx
    rcases hx with hx | rfl
    · obtain ⟨k', hk', hM⟩ := h.1 x hx
      refine ⟨k', hk', ?_⟩
      have : k' ≠ s := fun e => hn x hx (by rw [hk', e])
      simp [upd, this, hM]
    · exact ⟨s, rfl, by simp [upd]⟩
  · by_cases e1 : k' = s
    · subst e1
      simp [upd] at hv
      subst hv
      exact ⟨{ key := .string k', val := v, born := c }, by simp, rfl, rfl⟩
    · simp [upd, e1] at hv
      obtain ⟨x, hx, h1, h2⟩ := h.2 k' v' hv
      exact ⟨x, by simp [Array.mem_toList_iff.1 hx], h1, h2⟩
theorem mem_modify {es : Array MapEntry} {j : Nat} {x : MapEntry} (hj : es[j]? = some x) (f : MapEntry → MapEntry) (y : MapEntry) : y ∈ (es.modify j f).toList ↔ y = f x ∨ ∃ i, i ≠ j ∧ es[i]? = some y := by
  constructor
  · intro hy
    obtain ⟨i, hi⟩ := List.getElem?_of_mem hy
    rw [Array.getElem?_toList, Array.getElem?_modify] at hi
    by_cases e1 : j = i
    · subst e1
      rw [if_pos rfl, hj] at hi
      simp at hi
      exact Or.inl hi.symm
    · rw [if_neg e1] at hi
      exact Or.inr ⟨i, fun e2 => e1 e2.symm, hi⟩
  · rintro (rfl | ⟨i, hne, hi⟩)
    · apply List.mem_of_getElem? (i := j)
      rw [Array.getElem?_toList, Array.getElem?_modify, if_pos rfl, hj]; rfl
    · apply List.mem_of_getElem? (i := i)
      rw [Array.getElem?_toList, Array.getElem?_modify, if_neg (fun e2 => hne e2.symm), hi]
theorem key_apart {es : Array MapEntry} {clock : Nat} (hst : Stamped es clock) {i j : Nat} {x y : MapEntry} (hi : es[i]? = some x) (hj : es[j]? = some y) (hk : x.key = y.key) : i = j := by
  have hn := hst.2.2
  have h1 : (es.toList.map (·.key))[i]? = some x.key := by rw [List.getElem?_map, Array.getElem?_toList, hi]; rfl
  have h2 : (es.toList.map (·.key))[j]? = some x.key := by rw [List.getElem?_map, Array.getElem?_toList, hj, hk]; rfl
  have l1 := (List.getElem?_eq_some_iff.1 h1).1
  have l2 := (List.getElem?_eq_some_iff.1 h2).1
  exact (List.getElem?_inj l1 hn).1 (h1.trans h2.symm)
theorem smap_modify {es : Array MapEntry} {clock : Nat} (hst : Stamped es clock) (h : SMap es M) {j : Nat} {x : MapEntry} (hj : es[j]? = some x) {s : ByteArray} (hx : x.key = .string s) (v : Value) :
    SMap (es.modify j fun e => { e with key := .string s, val := v }) (upd M s (some v)) := by
  refine ⟨fun y hy => ?_, fun k' v' hv => ?_⟩
  · rcases (mem_modify hj _ y).1 hy with rfl | ⟨i, hne, hi⟩
    · exact ⟨s, rfl, by simp [upd]⟩
    · obtain ⟨k', hk', hM⟩ := h.1 y (Array.mem_toList_iff.2 (Array.mem_of_getElem? hi))
      refine ⟨k', hk', ?_⟩
      have : k' ≠ s := fun e1 => hne (key_apart hst hi hj (by rw [hk', hx, e1]))
      simp [upd, this, hM]
  · by_cases e1 : k' = s
    · subst e1
      simp [upd] at hv
      subst hv
      exact ⟨_, (mem_modify hj _ _).2 (Or.inl rfl), rfl, rfl⟩
    · simp [upd, e1] at hv
      obtain ⟨y, hy, h1, h2⟩ := h.2 k' v' hv
      obtain ⟨i, hi⟩ := List.getElem?_of_mem hy
      rw [Array.getElem?_toList] at hi
      refine ⟨y, (mem_modify hj _ y).2 (Or.inr ⟨i, fun e2 => ?_, hi⟩), h1, h2⟩
      subst e2
      rw [hj] at hi
      cases hi
      rw [hx] at h1
      cases h1
      exact e1 rfl
theorem MapIs.store (h : MapIs w b M) (ht : P.underlying t = some (.map k e)) (hk : P.underlying k = some .string) (s : ByteArray) (v : Value) :
    ∃ w', (Instr.mapUpdate t (.map (some b)) (.string s) v).run P w = .ok () w' ∧ MapIs w' b (upd M s (some v)) ∧ Chg (· = b) w w' ∧ w'.heap.size = w.heap.size := by
  obtain ⟨es, clock, hb, hst, hm⟩ := h
  rcases hm.find hk s w with ⟨h1, h2, h3⟩ | ⟨j, x, h1, h2, h3, h4⟩
  · refine ⟨setBlock w b (.map (es.push { key := .string s, val := v, born := clock }) (clock + 1)), ?_, ⟨_, _, setBlock_at hb, stamped_push hst h3, smap_push hm s v clock h3⟩, chg_setBlock hb _, by simp [setBlock]⟩
    simp [Instr.mapUpdate, run_underlying ht, MapKept.run_getObj_map hb, run_checkKey (d := .string) (k := .string s) hk trivial, h2, MapKept.run_setObj_map _ hb, Result.andThen, setBlock]
  · have hkey : ∀ e' ∈ es.toList, es[j]? = some e' → ({ e' with key := .string s, val := v } : MapEntry).key = e'.key := fun e' _ he => by rw [h3] at he; cases he; exact h4.symm
    refine ⟨setBlock w b (.map (es.modify j fun e => { e with key := .string s, val := v }) clock), ?_, ⟨_, _, setBlock_at hb, stamped_modify hst j _ (fun _ _ => rfl) hkey, smap_modify hst hm h3 h4 v⟩, chg_setBlock hb _, by simp [setBlock]⟩
    simp [Instr.mapUpdate, run_underlying ht, MapKept.run_getObj_map hb, run_checkKey (d := .string) (k := .string s) hk trivial, h2, h3, h4, run_keyThatStays (d := .string) (k := .string s) trivial, MapKept.run_setObj_map _ hb, Result.andThen, setBlock]
theorem smap_erase {es : Array MapEntry} {clock : Nat} (hst : Stamped es clock) (h : SMap es M) {j : Nat} {x : MapEntry} (hj : es[j]? = some x) {s : ByteArray} (hx : x.key = .string s) : SMap (es.eraseIdxIfInBounds j) (upd M s none) ∧ ∀ y, y ∈ (es.eraseIdxIfInBounds j).toList ↔ (y ∈ es.toList ∧ y.key ≠ .string s) := by
  have hjs : j < es.size := (Array.getElem?_eq_some_iff.1 hj).1
  have hsub : (es.eraseIdxIfInBounds j).toList = es.toList.eraseIdx j := by
    unfold Array.eraseIdxIfInBounds
    rw [dif_pos hjs]
    simp
  have hmem : ∀ y, y ∈ (es.eraseIdxIfInBounds j).toList ↔ (y ∈ es.toList ∧ y.key ≠ .string s) := by
    intro y
    rw [hsub, List.mem_eraseIdx_iff_getElem?]
    constructor
    · rintro ⟨i, hne, hi⟩
      refine ⟨List.mem_of_getElem? hi, fun e1 => hne ?_⟩
      rw [Array.getElem?_toList] at hi
      exact key_apart hst hi hj (by rw [e1, hx])
    · rintro ⟨hy, hne⟩
      obtain ⟨i, hi⟩ := List.getElem?_of_mem hy
      refine ⟨i, fun e1 => hne ?_, hi⟩
      rw [e1, Array.getElem?_toList, hj] at hi
      cases hi
      exact hx
  refine ⟨⟨fun y hy => ?_, fun k' v' hv => ?_⟩, hmem⟩
  · obtain ⟨hy1, hy2⟩ := (hmem y).1 hy
    obtain ⟨k', hk', hM⟩ := h.1 y hy1
    refine ⟨k', hk', ?_⟩
    have : k' ≠ s := fun e1 => hy2 (by rw [hk', e1])
    simp [upd, this, hM]
  · by_cases e1 : k' = s
    · subst e1; simp [upd] at hv
    · simp [upd, e1] at hv
      obtain ⟨y, hy, h1, h2⟩ := h.2 k' v' hv
      exact ⟨y, (hmem y).2 ⟨hy, fun e2 => by rw [h1] at e2; cases e2; exact e1 rfl⟩, h1, h2⟩
theorem smap_none {es : Array MapEntry} (h : SMap es M) {s : ByteArray} (hs : M s = none) : SMap es (upd M s none) := by
  have : upd M s none = M := by
    funext k'
    by_cases e1 : k' = s
    · subst e1; simp [upd, hs]
    · simp [upd, e1]
  rw [this]; exact h
theorem MapIs.drop (h : MapIs w b M) (ht : P.underlying t = some (.map k e)) (hk : P.underlying k = some .string) (s : ByteArray) (ty : TypeId) :
    ∃ w', (Builtin.delete_ #[t, k] ty #[.map (some b), .string s]).run P w = .ok (.tuple #[]) w' ∧ MapIs w' b (upd M s none) ∧ Chg (· = b) w w' ∧ w'.heap.size = w.heap.size := by
  obtain ⟨es, clock, hb, hst, hm⟩ := h
  rcases hm.find hk s w with ⟨h1, h2, h3⟩ | ⟨j, x, h1, h2, h3, h4⟩
  · refine ⟨setBlock w b (.map es clock), ?_, ⟨_, _, setBlock_at hb, hst, smap_none hm h1⟩, chg_setBlock hb _, by simp [setBlock]⟩
    simp [Builtin.delete_, run_underlying ht, MapKept.run_getObj_map hb, run_checkKey (d := .string) (k := .string s) hk trivial, h2, MapKept.run_setObj_map _ hb, Result.andThen, setBlock]
  · refine ⟨setBlock w b (.map (es.eraseIdxIfInBounds j) clock), ?_, ⟨_, _, setBlock_at hb, stamped_erase hst j, (smap_erase hst hm h3 h4).1⟩, chg_setBlock hb _, by simp [setBlock]⟩
    simp [Builtin.delete_, run_underlying ht, MapKept.run_getObj_map hb, run_checkKey (d := .string) (k := .string s) hk trivial, h2, MapKept.run_setObj_map _ hb, Result.andThen, setBlock]
theorem MapIs.len (h : MapIs w b M) (ht : P.underlying t = some (.map k e)) : ∃ n : Nat, (∀ ty, (Builtin.len_ #[t] ty #[.map (some b)]).run P w = .ok (.int .i64 n) w) ∧ (n = 0 ↔ ∀ s, M s = none) := by
  obtain ⟨es, clock, hb, hst, hm⟩ := h
  refine ⟨es.size, fun ty => ?_, ?_⟩
  · simp [Builtin.len_, run_underlying ht, MapKept.run_getObj_map hb, Result.andThen, goInt]
  · constructor
    · intro h0 s
      cases hM : M s with
      | none => rfl
      | some v =>
        obtain ⟨x, hx, _⟩ := hm.2 s v hM
        rw [Array.eq_empty_of_size_eq_zero h0] at hx
        simp at hx
    · intro h0
      rcases Nat.eq_zero_or_pos es.size with h1 | h1
      · exact h1
      · obtain ⟨k', _, hM⟩ := hm.1 es[0] (by simp)
        rw [h0 k'] at hM
        cases hM
/-- Ranging over a map under way: block r is the iterator; left: which keys are still to come. -/
def RangeIs (w : World) (b r : Nat) (M : ByteArray → Option Value) (left : ByteArray → Bool) : Prop :=
  ∃ es clock since seen c0, w.heap[b]? = some (.map es clock) ∧ Stamped es clock ∧ SMap es M ∧ w.heap[r]? = some (.mapIter (some b) since seen c0) ∧ (∀ x ∈ es.toList, x.born < since) ∧ since ≤ c0 ∧ since ≤ clock ∧
    (∀ x ∈ es.toList, ∀ k, x.key = .string k → left k = !seen.contains x.born) ∧ ∀ k, left k = true → (M k).isSome = true
theorem RangeIs.map {r : Nat} {left : ByteArray → Bool} (h : RangeIs w b r M left) : MapIs w b M := by
  obtain ⟨es, clock, _, _, _, hb, hst, hm, _⟩ := h
  exact ⟨es, clock, hb, hst, hm⟩
theorem RangeIs.lt {r : Nat} {left : ByteArray → Bool} (h : RangeIs w b r M left) : r < w.heap.size ∧ b < w.heap.size ∧ r ≠ b := by
  obtain ⟨es, clock, _, _, _, hb, _, _, hr, _⟩ := h
  exact ⟨(Array.getElem?_eq_some_iff.1 hr).1, (Array.getElem?_eq_some_iff.1 hb).1, fun e1 => by rw [e1, hb] at hr; cases hr⟩
theorem RangeIs.chg {S : Nat → Prop} {w' : World} {r : Nat} {left : ByteArray → Bool} (h : RangeIs w b r M left) (hc : Chg S w w') (hb : ¬ S b) (hr : ¬ S r) : RangeIs w' b r M left ∧ w'.rangeLeft b r = w.rangeLeft b r := by
  obtain ⟨h1, h2, _⟩ := h.lt
  obtain ⟨es, clock, since, seen, c0, g1, g2, g3, g4, g5⟩ := h
  have e1 := hc.block b h2 hb
  have e2 := hc.block r h1 hr
  exact ⟨⟨es, clock, since, seen, c0, e1.trans g1, g2, g3, e2.trans g4, g5⟩, by simp only [World.rangeLeft, e1, e2]⟩
/-- 'range m'. -/
theorem MapIs.range (h : MapIs w b M) (ht : P.underlying t = some (.map k e)) :
    ∃ w', (Instr.range t (.map (some b))).run P w = .ok (.pointer (some ⟨w.heap.size, 0, none⟩)) w' ∧ RangeIs w' b w.heap.size M (fun s => (M s).isSome) ∧ Below w.heap.size w w' ∧ w'.heap.size = w.heap.size + 1 := by
  have hlt := h.lt
  obtain ⟨es, clock, hb, hst, hm⟩ := h
  refine ⟨_, run_range_map w t k e b es clock ht hb, ⟨es, clock, clock, #[], clock, ((heap_alloc w _).2 b hlt).trans hb, hst, hm, (heap_alloc w _).1, hst.1, Nat.le_refl _, Nat.le_refl _, ?_, fun _ h => h⟩, (Below.refl _ _).alloc (Nat.le_refl _) _, by simp⟩
  intro x hx k' hk'
  obtain ⟨k2, hk2, hM⟩ := hm.1 x hx
  rw [hk'] at hk2
  cases hk2
  simp [hM]
/-- The step of a range. -/
theorem RangeIs.next {r : Nat} {left : ByteArray → Bool} (h : RangeIs w b r M left) :
    ((∀ s, left s = false) ∧ ∀ ty, (Instr.next (.pointer (some ⟨r, 0, none⟩)) false ty).run P w = .ok (.tuple #[.bool false]) w) ∨
    ∃ s v w', left s = true ∧ M s = some v ∧ (∀ ty, (Instr.next (.pointer (some ⟨r, 0, none⟩)) false ty).run P w = .ok (.tuple #[.bool true, .string s, v]) w') ∧ (Instr.entry (.pointer (some ⟨r, 0, none⟩))).run P w' = .ok (.tuple #[.string s, v]) w' ∧
      RangeIs w' b r M (fun x => left x && decide (x ≠ s)) ∧ w'.rangeLeft b r < w.rangeLeft b r ∧ Chg (· = r) w w' ∧ w'.heap.size = w.heap.size := by
  obtain ⟨_, _, hne⟩ := h.lt
  obtain ⟨es, clock, since, seen, c0, hb, hst, hm, hr, hold, hsc, hsk, hl1, hl2⟩ := h
  have hst' := (stamped_iff es clock).1 hst
  rcases run_next_at (P := P) w 0 r b since c0 seen es clock hr hb hold hsc with ⟨h0, hrun⟩ | ⟨e, he, w1, hal, hrun⟩
  · refine Or.inl ⟨fun s => ?_, fun ty => hrun⟩
    cases hk : left s
    · rfl
    · have h3 := hl2 s hk
      cases hM : M s with
      | none => rw [hM] at h3; cases h3
      | some v =>
        obtain ⟨x, hx, hxk, _⟩ := hm.2 s v hM
        rw [hl1 x hx s hxk, all_seen es seen h0 x hx] at hk
        cases hk
  · obtain ⟨hem, hes⟩ := mem_left he
    obtain ⟨s, hs, hM⟩ := hm.1 e hem
    have hr1 : w1.heap[r]? = some (.mapIter (some b) since seen c0) := by rcases hal with rfl | rfl <;> exact hr
    have hb1 : w1.heap[b]? = some (.map es clock) := by rcases hal with rfl | rfl <;> exact hb
    have hset := heap_set (o' := .mapIter (some b) since (seen.push e.born) clock) hr1
    have hb' : (setBlock w1 r (.mapIter (some b) since (seen.push e.born) clock)).heap[b]? = some (.map es clock) := (hset.2 b (fun e1 => hne e1.symm)).trans hb1
    refine Or.inr ⟨s, e.val, _, by rw [hl1 e hem s hs, hes]; rfl, hM, fun ty => by rw [← hs]; exact hrun, by rw [← hs]; exact run_entry_at _ r b since seen es clock e hset.1 hb' hem hst'.2.1,
      ⟨es, clock, since, seen.push e.born, clock, hb', hst, hm, hset.1, hold, hsk, hsk, fun x hx k' hk' => ?_, fun k' hk' => hl2 k' (by simp at hk'; exact hk'.1)⟩, ?_, ?_, ?_⟩
    · show (left k' && decide (k' ≠ s)) = _
      rw [hl1 x hx k' hk', contains_push]
      by_cases hbe : x.born = e.born
      · obtain rfl := born_inj hst'.2.1 hx hem hbe
        rw [hs] at hk'
        cases hk'
        simp
      · have : k' ≠ s := fun e1 => hbe (by
          obtain ⟨i, hi⟩ := List.getElem?_of_mem hx
          obtain ⟨j, hj⟩ := List.getElem?_of_mem hem
          rw [Array.getElem?_toList] at hi hj
          obtain rfl := key_apart hst hi hj (by rw [hk', hs, e1])
          rw [hi] at hj
          cases hj
          rfl)
        simp [this, hbe]
    · have e1 : World.rangeLeft (setBlock w1 r (.mapIter (some b) since (seen.push e.born) clock)) b r = (leftOf es (seen.push e.born)).size := by
        simp only [World.rangeLeft, hb']
        rw [show (setBlock w1 r (.mapIter (some b) since (seen.push e.born) clock)).heap[r]? = _ from hset.1]
      have e2 : w.rangeLeft b r = (leftOf es seen).size := by simp only [World.rangeLeft, hb, hr]
      rw [e1, e2]
      exact left_shrinks es seen e he
    · rcases hal with rfl | rfl <;> exact ⟨rfl, rfl, rfl, by simp [setBlock], fun i _ hi => hset.2 i hi⟩
    · rcases hal with rfl | rfl <;> simp [setBlock]
/-- A store at a key that is there, in the round. -/
theorem RangeIs.store {r : Nat} {left : ByteArray → Bool} (h : RangeIs w b r M left) (ht : P.underlying t = some (.map k e)) (hk : P.underlying k = some .string) (s : ByteArray) (hs : (M s).isSome = true) (v : Value) :
    ∃ w', (Instr.mapUpdate t (.map (some b)) (.string s) v).run P w = .ok () w' ∧ RangeIs w' b r (upd M s (some v)) left ∧ w'.rangeLeft b r = w.rangeLeft b r ∧ Chg (· = b) w w' ∧ w'.heap.size = w.heap.size := by
  obtain ⟨_, _, hne⟩ := h.lt
  obtain ⟨es, clock, since, seen, c0, hb, hst, hm, hr, hold, hsc, hsk, hl1, hl2⟩ := h
  rcases hm.find hk s w with ⟨h1, h2, h3⟩ | ⟨j, x, h1, h2, h3, h4⟩
  · rw [h1] at hs; cases hs
  · have hkey : ∀ e' ∈ es.toList, es[j]? = some e' → ({ e' with key := .string s, val := v } : MapEntry).key = e'.key := fun e' _ he => by rw [h3] at he; cases he; exact h4.symm
    have hr' : (setBlock w b (.map (es.modify j fun e => { e with key := .string s, val := v }) clock)).heap[r]? = some (.mapIter (some b) since seen c0) := ((heap_set hb).2 r hne).trans hr
    have hborn : ∀ y ∈ (es.modify j fun e => { e with key := .string s, val := v }).toList, ∃ z ∈ es.toList, y.born = z.born ∧ y.key = z.key := by
      intro y hy
      rcases (mem_modify h3 _ y).1 hy with rfl | ⟨i, _, hi⟩
      · exact ⟨x, Array.mem_toList_iff.2 (Array.mem_of_getElem? h3), rfl, h4.symm⟩
      · exact ⟨y, Array.mem_toList_iff.2 (Array.mem_of_getElem? hi), rfl, rfl⟩
    refine ⟨setBlock w b (.map (es.modify j fun e => { e with key := .string s, val := v }) clock), ?_, ⟨_, clock, since, seen, c0, setBlock_at hb, stamped_modify hst j _ (fun _ _ => rfl) hkey, smap_modify hst hm h3 h4 v, hr', ?_, hsc, hsk, ?_, ?_⟩, ?_, chg_setBlock hb _, by simp [setBlock]⟩
    · simp [Instr.mapUpdate, run_underlying ht, MapKept.run_getObj_map hb, run_checkKey (d := .string) (k := .string s) hk trivial, h2, h3, h4, run_keyThatStays (d := .string) (k := .string s) trivial, MapKept.run_setObj_map _ hb, Result.andThen, setBlock]
    · intro y hy
      obtain ⟨z, hz, e1, _⟩ := hborn y hy
      rw [e1]; exact hold z hz
    · intro y hy k' hk'
      obtain ⟨z, hz, e1, e2⟩ := hborn y hy
      rw [e1]; exact hl1 z hz k' (by rw [← e2]; exact hk')
    · intro k' hk'
      by_cases e1 : k' = s
      · simp [upd, e1]
      · simp [upd, e1]; simpa using hl2 k' hk'
    · simp only [World.rangeLeft, setBlock_at hb, hr', hb, hr]
      have e1 : ∀ a : Array MapEntry, (leftOf a seen).size = ((a.toList.map (·.born)).filter fun n => !seen.contains n).length := fun a => by
        unfold leftOf
        rw [← Array.length_toList, Array.toList_filter, List.filter_map, List.length_map]; rfl
      rw [e1, e1]
      congr 2
      apply List.ext_getElem?
      intro i
      simp only [List.getElem?_map, Array.getElem?_toList, Array.getElem?_modify]
      by_cases hij : j = i
      · subst hij; rw [if_pos rfl, h3]; rfl
      · rw [if_neg hij]
/-- 'delete(m, k)' in the round, at a key that has come. -/
theorem RangeIs.drop {r : Nat} {left : ByteArray → Bool} (h : RangeIs w b r M left) (ht : P.underlying t = some (.map k e)) (hk : P.underlying k = some .string) (s : ByteArray) (hs : left s = false) (ty : TypeId) :
    ∃ w', (Builtin.delete_ #[t, k] ty #[.map (some b), .string s]).run P w = .ok (.tuple #[]) w' ∧ RangeIs w' b r (upd M s none) left ∧ w'.rangeLeft b r ≤ w.rangeLeft b r ∧ Chg (· = b) w w' ∧ w'.heap.size = w.heap.size := by
  obtain ⟨_, _, hne⟩ := h.lt
  obtain ⟨es, clock, since, seen, c0, hb, hst, hm, hr, hold, hsc, hsk, hl1, hl2⟩ := h
  have hl2' : ∀ k', left k' = true → ((upd M s none) k').isSome = true := by
    intro k' hk'
    by_cases e1 : k' = s
    · rw [e1, hs] at hk'; cases hk'
    · simp [upd, e1]; simpa using hl2 k' hk'
  have hr' : ∀ o', (setBlock w b o').heap[r]? = some (.mapIter (some b) since seen c0) := fun o' => ((heap_set hb).2 r hne).trans hr
  rcases hm.find hk s w with ⟨h1, h2, h3⟩ | ⟨j, x, h1, h2, h3, h4⟩
  · refine ⟨setBlock w b (.map es clock), ?_, ⟨es, clock, since, seen, c0, setBlock_at hb, hst, smap_none hm h1, hr' _, hold, hsc, hsk, hl1, hl2'⟩, ?_, chg_setBlock hb _, by simp [setBlock]⟩
    · simp [Builtin.delete_, run_underlying ht, MapKept.run_getObj_map hb, run_checkKey (d := .string) (k := .string s) hk trivial, h2, MapKept.run_setObj_map _ hb, Result.andThen, setBlock]
    · simp only [World.rangeLeft, setBlock_at hb, hr', hb, hr]; exact Nat.le_refl _
  · obtain ⟨he1, he2⟩ := smap_erase hst hm h3 h4
    refine ⟨setBlock w b (.map (es.eraseIdxIfInBounds j) clock), ?_, ⟨_, clock, since, seen, c0, setBlock_at hb, stamped_erase hst j, he1, hr' _, fun y hy => hold y ((he2 y).1 hy).1, hsc, hsk, fun y hy => hl1 y ((he2 y).1 hy).1, hl2'⟩, ?_, chg_setBlock hb _, by simp [setBlock]⟩
    · simp [Builtin.delete_, run_underlying ht, MapKept.run_getObj_map hb, run_checkKey (d := .string) (k := .string s) hk trivial, h2, MapKept.run_setObj_map _ hb, Result.andThen, setBlock]
    · simp only [World.rangeLeft, setBlock_at hb, hr', hb, hr]
      have e1 : ∀ a : Array MapEntry, (leftOf a seen).size = (a.toList.filter fun e => !seen.contains e.born).length := fun a => by
        unfold leftOf
        rw [← Array.toList_filter, Array.length_toList]
      rw [e1, e1]
      have hsub : (es.eraseIdxIfInBounds j).toList.Sublist es.toList := by
        unfold Array.eraseIdxIfInBounds
        split
        · simp only [Array.toList_eraseIdx]; exact List.eraseIdx_sublist _ _
        · exact List.Sublist.refl _
      exact (hsub.filter _).length_le
end
end Go.Proofs.YtcofblepdfjhjaaGreatDoor
