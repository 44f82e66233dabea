/- A new entry: the plain function; entries in memory. -/
import Derived.Test.YtcofblepdfjhjaaGreatDoorW19
import Derived.Deep.RegionHeld3
import Derived.Deep.DeepCutAuto
namespace Go.Proofs.YtcofblepdfjhjaaGreatDoor
open Go.RowKit
/-- A cookie as the jar's package has it. -/
def pkCells (c : PCookie) : List Value := [.string c.name, .string c.value, .bool false, .string c.path, .string c.domain, .int .i64 c.expires, .int .i64 0, .int .i64 c.maxAge, .bool c.secure, .bool false]
/-- A new entry's path. -/
def pathOf (c : PCookie) (defp : ByteArray) : ByteArray := if c.path.size = 0 ∨ (((lst c.path).getD 0 0).toNat : Int) ≠ 47 then defp else c.path
/-- What newEntry makes of a cookie: none: refused; (e, true): to be deleted. -/
def newEnt (psl : Option (List ByteArray)) (host defp : ByteArray) (now : Int) (c : PCookie) : Option (Ent × Bool) :=
  (domTy psl host c.domain).map fun p =>
    let gone : Ent := ⟨c.name, ⟨#[]⟩, p.1, pathOf c defp, false, false, p.2, 0, 0, 0⟩
    if c.maxAge < 0 then (gone, true)
    else if 0 < c.maxAge then (⟨c.name, c.value, p.1, pathOf c defp, c.secure, true, p.2, now + c.maxAge, 0, 0⟩, false)
    else if c.expires = 0 then (⟨c.name, c.value, p.1, pathOf c defp, c.secure, false, p.2, 253402300799, 0, 0⟩, false)
    else if now < c.expires then (⟨c.name, c.value, p.1, pathOf c defp, c.secure, true, p.2, c.expires, 0, 0⟩, false)
    else (gone, true)
def NewRes (ev : Value) (r : Ending) : Option (Ent × Bool) → Prop
  | none => ∃ e la, r = .returned (.tuple #[entVal e la, .bool false, ev])
  | some (e, rem) => r = .returned (.tuple #[entVal e 0, .bool rem, .nilIface])
def NewPost (ev : Value) (o : Option (Ent × Bool)) (w : World) (r : Ending) (w' : World) : Prop := NewRes ev r o ∧ Below w.heap.size w w'
/-- An entry's sixteen cells. -/
def EntAt (w : World) (b : Nat) (e : Ent) (la : Int) : Prop := w.cell? ⟨b, 0, none⟩ = some (.string e.name) ∧ w.cell? ⟨b, 1, none⟩ = some (.string e.value) ∧ w.cell? ⟨b, 2, none⟩ = some (.bool false) ∧ w.cell? ⟨b, 3, none⟩ = some (.string e.domain) ∧ w.cell? ⟨b, 4, none⟩ = some (.string e.path) ∧ w.cell? ⟨b, 5, none⟩ = some (.bool e.secure) ∧ w.cell? ⟨b, 6, none⟩ = some (.bool false) ∧ w.cell? ⟨b, 7, none⟩ = some (.bool e.persistent) ∧ w.cell? ⟨b, 8, none⟩ = some (.bool e.hostOnly) ∧ w.cell? ⟨b, 9, none⟩ = some (.int .i64 e.exp) ∧ w.cell? ⟨b, 10, none⟩ = some (.int .i64 0) ∧ w.cell? ⟨b, 11, none⟩ = some (.int .i64 e.cre) ∧ w.cell? ⟨b, 12, none⟩ = some (.int .i64 0) ∧ w.cell? ⟨b, 13, none⟩ = some (.int .i64 la) ∧ w.cell? ⟨b, 14, none⟩ = some (.int .i64 0) ∧ w.cell? ⟨b, 15, none⟩ = some (.int .u64 e.seq)
theorem EntAt.row {w : World} {b : Nat} {e : Ent} {la : Int} (h : EntAt w b e la) : RowAt w b 0 (entCells e la) := by
  obtain ⟨h0, h1, h2, h3, h4, h5, h6, h7, h8, h9, h10, h11, h12, h13, h14, h15⟩ := h
  intro i u hu
  rw [Nat.zero_add]
  match i, hu with
  | 0, hu => cases hu; exact h0
  | 1, hu => cases hu; exact h1
  | 2, hu => cases hu; exact h2
  | 3, hu => cases hu; exact h3
  | 4, hu => cases hu; exact h4
  | 5, hu => cases hu; exact h5
  | 6, hu => cases hu; exact h6
  | 7, hu => cases hu; exact h7
  | 8, hu => cases hu; exact h8
  | 9, hu => cases hu; exact h9
  | 10, hu => cases hu; exact h10
  | 11, hu => cases hu; exact h11
  | 12, hu => cases hu; exact h12
  | 13, hu => cases hu; exact h13
  | 14, hu => cases hu; exact h14
  | 15, hu => cases hu; exact h15
  | i + 16, hu => simp [entCells] at hu
theorem EntAt.of_row {w : World} {b : Nat} {e : Ent} {la : Int} (h : RowAt w b 0 (entCells e la)) : EntAt w b e la := by
  have H : ∀ i u, (entCells e la)[i]? = some u → w.cell? ⟨b, i, none⟩ = some u := fun i u hu => by have := h i u hu; rwa [Nat.zero_add] at this
  exact ⟨H 0 _ rfl, H 1 _ rfl, H 2 _ rfl, H 3 _ rfl, H 4 _ rfl, H 5 _ rfl, H 6 _ rfl, H 7 _ rfl, H 8 _ rfl, H 9 _ rfl, H 10 _ rfl, H 11 _ rfl, H 12 _ rfl, H 13 _ rfl, H 14 _ rfl, H 15 _ rfl⟩
theorem EntAt.below {w w' : World} {b B : Nat} {e : Ent} {la : Int} (h : EntAt w b e la) (hb : Below B w w') (hB : b < B) : EntAt w' b e la := EntAt.of_row (h.row.below hb hB)
theorem RowAt.set {w : World} {b : Nat} {us : List Value} (h : RowAt w b 0 us) (k : Nat) (u : Value) : RowAt (w.setCell ⟨b, k, none⟩ u) b 0 (us.set k u) := by
  intro i v hv
  rw [Nat.zero_add]
  rw [List.getElem?_set] at hv
  by_cases e : k = i
  · subst e
    rw [if_pos rfl] at hv
    split at hv
    · rename_i hk
      have := h k us[k] (List.getElem?_eq_getElem hk)
      rw [Nat.zero_add] at this
      cases hv
      exact World.cell?_setCell_same _ _ _ this
    · cases hv
  · rw [if_neg e] at hv
    have := h i v hv
    rw [Nat.zero_add] at this
    rw [World.cell?_setCell_other _ _ _ _ (by intro hh; injection hh with _ h2; exact e h2)]
    exact this
/-- No cell of a block is shared with a string. -/
def Loose (w : World) (b : Nat) : Prop := ∀ i, w.frozen? ⟨b, i, none⟩ = false
theorem Loose.setCell {w : World} {b : Nat} (h : Loose w b) (p : Addr) (u : Value) : Loose (w.setCell p u) b := fun i => by simp [go_sem, h i]
theorem RowAt.there {w : World} {b : Nat} {us : List Value} (h : RowAt w b 0 us) (hl : Loose w b) (n : Nat) (hn : n = us.length) : w.there b 0 n := fun j hj => by
  subst hn
  refine ⟨?_, by rw [Nat.zero_add]; exact hl j⟩
  rw [h j _ (List.getElem?_eq_getElem hj)]; rfl
theorem entCells_one (e : Ent) (la : Int) : (entCells e la).toArray.all (·.oneCell') = true := all_oneCell_toArray (by intro v hv; simp [entCells] at hv; rcases hv with rfl | rfl | rfl | rfl | rfl | rfl | rfl | rfl | rfl | rfl | rfl | rfl | rfl | rfl | rfl | rfl <;> rfl)
theorem Below.setCells {B : Nat} {a : World} (b : Nat) (hB : B ≤ b) : ∀ (vs : List Value) (o : Nat) (w : World), Below B a w → Below B a (w.setCells b o vs)
  | [], _, _, h => h
  | v :: r, o, w, h => by rw [World.setCells]; exact Below.setCells b hB r (o + 1) _ (h.setCell hB v)
theorem size_setCells (b : Nat) : ∀ (vs : List Value) (o : Nat) (w : World), (w.setCells b o vs).heap.size = w.heap.size
  | [], _, _ => rfl
  | v :: r, o, w => by rw [World.setCells, size_setCells b r (o + 1)]; simp [World.setCell]
theorem Loose.below {w w' : World} {b B : Nat} (h : Loose w b) (hb : Below B w w') (hB : b < B) : Loose w' b := fun i => by
  rw [World.frozen?_of_block (w := w) (hb.block b hB)]; exact h i
theorem Loose.setCells {w : World} {b : Nat} (h : Loose w b) (c : Nat) : ∀ (vs : List Value) (o : Nat), Loose (w.setCells c o vs) b := fun vs o i => by rw [World.frozen?_setCells]; exact h i
theorem info_ent : (Tryz.prog.info? 109).map (·.size) = some 16 := by kernel_rfl
theorem under_ent : ∃ d, Tryz.prog.underlying 109 = some d ∧ d.isRow = true := ⟨_, Tryz.underlying109, rfl⟩
theorem load_ent {ops : Array Oper} {rest : List Oper} {op : Oper} {a : Act} {w : World} {Q : Exit → Act → World → Prop} (hgd : op.guard = none) (x : Operand) (ho : op.op = .load 109 x)
    (b : Nat) (hx : a.eval x = .pointer (some ⟨b, 0, none⟩)) (e : Ent) (la : Int) (hc : RowAt w b 0 (entCells e la))
    (h : wpList Tryz.prog ops Q rest (a.put op.dst (entVal e la)) w) : wpList Tryz.prog ops Q (op :: rest) a w := by
  obtain ⟨d, h1, h2⟩ := under_ent
  exact wpList_load_mid hgd 109 x ho b 0 hx (entCells e la) d hc h1 h2 info_ent h
theorem store_ent {ops : Array Oper} {rest : List Oper} {op : Oper} {a : Act} {w : World} {Q : Exit → Act → World → Prop} (hgd : op.guard = none) (x y : Operand) (ho : op.op = .store 109 x y)
    (b : Nat) (hx : a.eval x = .pointer (some ⟨b, 0, none⟩)) (e : Ent) (la : Int) (hy : a.eval y = entVal e la) {us : List Value} (hc : RowAt w b 0 us) (hus : us.length = 16) (hl : Loose w b)
    (h : ∀ w', RowAt w' b 0 (entCells e la) → Loose w' b → w'.heap.size = w.heap.size → (∀ B, B ≤ b → Below B w w') → wpList Tryz.prog ops Q rest (a.put op.dst undef) w') : wpList Tryz.prog ops Q (op :: rest) a w := by
  have ht : w.there b 0 (entCells e la).toArray.size := hc.there hl _ hus.symm
  refine wpList_store_mid hgd 109 x y ho b 0 (entCells e la).toArray hx hy ht info_ent (entCells_one e la) ?_
  exact h _ (World.rangeAt_setCells_same w b 0 _ ht) (hl.setCells _ _ _) (size_setCells _ _ _ _) (fun B hB => Below.setCells b hB _ _ _ (Below.refl _ _))
theorem results_ent {fn : Func} {p u v : Tmp} (h : fn.results = #[.cell p 109, .tmp u, .tmp v]) (tmps : Array Value) (w : World) (b : Nat) (e : Ent) (la : Int)
    (hp : tmps.getD p undef = .pointer (some ⟨b, 0, none⟩)) (hc : RowAt w b 0 (entCells e la)) :
    (results fn tmps).run Tryz.prog w = .ok (.tuple #[entVal e la, tmps.getD u undef, tmps.getD v undef]) w := by
  obtain ⟨d, h1, h2⟩ := under_ent
  have hl := run_loadVar_mid (P := Tryz.prog) w b 0 109 (entCells e la) d hc h1 h2 info_ent
  have hp' : tmps[p]?.getD undef = .pointer (some ⟨b, 0, none⟩) := by simpa using hp
  simp [results, h, hp', asAddr, hl, entVal]
end Go.Proofs.YtcofblepdfjhjaaGreatDoor
