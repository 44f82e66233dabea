/- What the setting of cookies makes of a key's entries; its loop's relation. -/
import Derived.Test.YtcofblepdfjhjaaGreatDoorJar2
import Derived.Test.YtcofblepdfjhjaaGreatDoorW18
namespace Go.Proofs.YtcofblepdfjhjaaGreatDoor
open Go.RowKit
def setOne (now : Int) (r : Option (Ent × Bool)) (st : (ByteArray → Option Ent) × Nat) : (ByteArray → Option Ent) × Nat :=
  match r with
  | none => st
  | some (e, true) => (updS st.1 (entId e) none, st.2)
  | some (e, false) =>
    match st.1 (entId e) with
    | some old => (updS st.1 (entId e) (some { e with cre := old.cre, seq := old.seq }), st.2)
    | none => (updS st.1 (entId e) (some { e with cre := now, seq := st.2 }), st.2 + 1)
def setList (psl : Option (List ByteArray)) (host defp : ByteArray) (now : Int) : List PCookie → (ByteArray → Option Ent) × Nat → (ByteArray → Option Ent) × Nat
  | [], st => st
  | c :: r, st => setList psl host defp now r (setOne now (newEnt psl host defp now c) st)
def isWeb (s : ByteArray) : Bool := decide (s = ⟨#[104, 116, 116, 112]⟩) || decide (s = ⟨#[104, 116, 116, 112, 115]⟩)
theorem setOne_n (now : Int) (r : Option (Ent × Bool)) (st : (ByteArray → Option Ent) × Nat) : st.2 ≤ (setOne now r st).2 ∧ (setOne now r st).2 ≤ st.2 + 1 := by
  unfold setOne
  split
  · omega
  · simp
  · split <;> simp
theorem domTy_size {psl : Option (List ByteArray)} {host d : ByteArray} {p : ByteArray × Bool} (h : domTy psl host d = some p) (hh : host.size ≤ 4294967296) (hd : d.size ≤ 2147483647) : p.1.size ≤ 4294967296 := by
  have hl := domLow_size d
  unfold domTy at h
  split at h
  · cases h; exact hh
  · split at h
    · split at h <;> cases h; exact hh
    · split at h
      · split at h <;> cases h; exact hh
      · split at h
        · cases h
        · cases h; simp only []; omega
theorem newEnt_fit {psl : Option (List ByteArray)} {host defp : ByteArray} {now : Int} {c : PCookie} {e : Ent} {rem : Bool} (h : newEnt psl host defp now c = some (e, rem)) (hh : host.size ≤ 4294967296) (hdp : defp.size ≤ 2147483647) (hd0 : 0 < defp.size)
    (h1 : c.name.size ≤ 2147483647) (h2 : c.value.size ≤ 2147483647) (h3 : c.domain.size ≤ 2147483647) (h4 : c.path.size ≤ 2147483647) : EntFit e ∧ 0 < e.path.size ∧ e.name = c.name ∧ e.path = pathOf c defp := by
  have hp : (pathOf c defp).size ≤ 2147483647 ∧ 0 < (pathOf c defp).size := by
    unfold pathOf; split
    · exact ⟨hdp, hd0⟩
    · rename_i hn; omega
  unfold newEnt at h
  cases hd : domTy psl host c.domain with
  | none => rw [hd] at h; cases h
  | some p =>
    rw [hd] at h
    have hps := domTy_size hd hh h3
    have h' := Option.some.inj h
    have e0 : (⟨#[]⟩ : ByteArray).size ≤ 2147483647 := by decide
    simp only [] at h'
    split at h'
    · cases h'; exact ⟨⟨h1, e0, hps, hp.1⟩, hp.2, rfl, rfl⟩
    · split at h'
      · cases h'; exact ⟨⟨h1, h2, hps, hp.1⟩, hp.2, rfl, rfl⟩
      · split at h'
        · cases h'; exact ⟨⟨h1, h2, hps, hp.1⟩, hp.2, rfl, rfl⟩
        · split at h'
          · cases h'; exact ⟨⟨h1, h2, hps, hp.1⟩, hp.2, rfl, rfl⟩
          · cases h'; exact ⟨⟨h1, e0, hps, hp.1⟩, hp.2, rfl, rfl⟩
theorem updS_none {S : ByteArray → Option Ent} {id : ByteArray} (h : S id = none) : updS S id none = S := by
  funext k
  by_cases hk : k = id
  · subst hk; simp [updS, h]
  · simp [updS, hk]
/-- A list of cookies in memory, by pointers. -/
def PtrsAt (w : World) (Q : Nat → Prop) (v : Value) (cs : List PCookie) : Prop :=
  ∃ ao b off cap, v = .slice ao cs.length cap ∧ (0 < cs.length → ao = some ⟨b, off, none⟩ ∧ b < w.heap.size ∧ Q b) ∧
    ∀ j c, cs[j]? = some c → ∃ cb, w.cell? ⟨b, off + j, none⟩ = some (.pointer (some ⟨cb, 0, none⟩)) ∧ cb < w.heap.size ∧ Q cb ∧ RowAt w cb 0 (pkCells c)
/-- The relation of the loop that sets cookies, but for what is left of them. -/
structure SetRel (w0 : World) (F G : Nat → Prop) (jb bm : Nat) (pv : Value) (J : ByteArray → ByteArray → Option Ent) (key : ByteArray) (E : ByteArray → Option Value) (wr : World) (v12 v13 : Value) (S : ByteArray → Option Ent) (n : Nat) : Prop where
  ex : ∃ (sub : Option Nat) (m : Bool), v12 = .map sub ∧ v13 = .bool m ∧ JarRest wr jb pv G J n key bm E ∧ Chg F w0 wr ∧ (m = false → S = J key) ∧
    ((sub = none ∧ E key = none ∧ m = false) ∨ ∃ b M, sub = some b ∧ ¬ G b ∧ b ≠ bm ∧ (F b ∨ w0.heap.size ≤ b) ∧ MapIs wr b M ∧ EntMap M S ∧ (E key = some (.map (some b)) ∨ E key = none))
theorem zero_map (w : World) : (zeroValue 106).run Tryz.prog w = .ok (.map none) w := by kernel_rfl
theorem zero_ent (w : World) : (zeroValue 109).run Tryz.prog w = .ok (entVal ⟨⟨#[]⟩, ⟨#[]⟩, ⟨#[]⟩, ⟨#[]⟩, false, false, false, 0, 0, 0⟩ 0) w := by kernel_rfl
@[go_sem] theorem neqSome (b : Nat) (w : World) : (binOp .neq 106 (.map (some b)) (.map none)).run Tryz.prog w = .ok (.bool true) w := by kernel_rfl
@[go_sem] theorem neqNil (w : World) : (binOp .neq 106 (.map none) (.map none)).run Tryz.prog w = .ok (.bool false) w := by kernel_rfl
@[go_sem] theorem eqlSome (b : Nat) (w : World) : (binOp .eql 106 (.map (some b)) (.map none)).run Tryz.prog w = .ok (.bool false) w := by kernel_rfl
@[go_sem] theorem eqlNil (w : World) : (binOp .eql 106 (.map none) (.map none)).run Tryz.prog w = .ok (.bool true) w := by kernel_rfl
/-- What stands in the slots behind the call of newEntry. -/
def NewSlots (ev : Value) (o : Option (Ent × Bool)) (v16 v17 v18 : Value) (wr wx : World) : Prop :=
  ∃ (eb : Nat) (e0 : Ent) (la0 : Int) (rem : Bool), v16 = .pointer (some ⟨eb, 0, none⟩) ∧ v17 = .bool rem ∧
    ((o = none ∧ v18 = ev) ∨ (o = some (e0, rem) ∧ v18 = .nilIface ∧ la0 = 0)) ∧ wr.heap.size ≤ eb ∧ eb < wx.heap.size ∧ RowAt wx eb 0 (entCells e0 la0) ∧ Loose wx eb ∧ Below wr.heap.size wr wx
theorem NewSlots.new (ev : Value) (o : Option (Ent × Bool)) (v17 v18 : Value) (wr w2 : World) (e0 : Ent) (la0 : Int) (rem : Bool) (h17 : v17 = .bool rem) (h : (o = none ∧ v18 = ev) ∨ (o = some (e0, rem) ∧ v18 = .nilIface ∧ la0 = 0)) (hb : Below wr.heap.size wr w2) :
    NewSlots ev o (.pointer (some ⟨w2.heap.size, 0, none⟩)) v17 v18 wr (w2.alloc (.cells (entCells e0 la0).toArray 109)) :=
  ⟨w2.heap.size, e0, la0, rem, rfl, h17, h, hb.size, by simp, RowAt.new w2 _ _, fun i => by simp [go_sem], hb.alloc hb.size _⟩
/-- What SetCookies leaves. -/
def SetPost (jb : Nat) (pv : Value) (F : Nat → Prop) (J' : ByteArray → ByteArray → Option Ent) (n' : Nat) (w : World) (r : Ending) (w' : World) : Prop :=
  r = .returned (.tuple #[]) ∧ ∃ F', JarAt w' jb pv F' J' n' ∧ Chg F w w' ∧ ∀ b, F' b → F b ∨ w.heap.size ≤ b
end Go.Proofs.YtcofblepdfjhjaaGreatDoor
