/- A jar in memory. -/
import Derived.Test.YtcofblepdfjhjaaGreatDoorW22
import Derived.Handy
namespace Go.Proofs.YtcofblepdfjhjaaGreatDoor
open Go.RowKit
/-- A map of entries holds these. -/
def EntMap (M : ByteArray → Option Value) (S : ByteArray → Option Ent) : Prop := ∀ id, (S id = none → M id = none) ∧ ∀ e, S id = some e → ∃ la, M id = some (entVal e la)
/-- A jar at block jb: its list of suffixes pv, its entries J (by key and id), its next number n; F: the blocks that are its own. -/
structure JarAt (w : World) (jb : Nat) (pv : Value) (F : Nat → Prop) (J : ByteArray → ByteArray → Option Ent) (n : Nat) : Prop where
  ex : ∃ (bm : Nat) (E : ByteArray → Option Value), RowAt w jb 0 [pv, .map (some bm), .int .u64 n] ∧ Loose w jb ∧ MapIs w bm E ∧ F jb ∧ F bm ∧ jb < w.heap.size ∧
    (∀ k, E k = none → ∀ id, J k id = none) ∧
    (∀ k v, E k = some v → ∃ b M, v = .map (some b) ∧ F b ∧ b ≠ bm ∧ MapIs w b M ∧ EntMap M (J k)) ∧
    (∀ k k' v, E k = some v → E k' = some v → k = k')
theorem RowAt.chg {S : Nat → Prop} {w w' : World} {b o : Nat} {us : List Value} (h : RowAt w b o us) (hc : Chg S w w') (hb : b < w.heap.size) (hn : ¬ S b) : RowAt w' b o us := fun i u hu => by
  rw [hc.cell (p := ⟨b, o + i, none⟩) hb hn]; exact h i u hu
theorem Loose.chg {S : Nat → Prop} {w w' : World} {b : Nat} (h : Loose w b) (hc : Chg S w w') (hb : b < w.heap.size) (hn : ¬ S b) : Loose w' b := fun i => by
  rw [hc.frozen (p := ⟨b, i, none⟩) hb hn]; exact h i
theorem JarAt.chg {S : Nat → Prop} {w w' : World} {jb : Nat} {pv : Value} {F : Nat → Prop} {J : ByteArray → ByteArray → Option Ent} {n : Nat} (h : JarAt w jb pv F J n) (hc : Chg S w w') (hn : ∀ b, F b → ¬ S b) : JarAt w' jb pv F J n := by
  obtain ⟨bm, E, h1, h2, h3, h4, h5, h6, h7, h8, h9⟩ := h.ex
  refine ⟨bm, E, h1.chg hc h6 (hn _ h4), h2.chg hc h6 (hn _ h4), h3.chg hc (hn _ h5), h4, h5, Nat.lt_of_lt_of_le h6 hc.size, h7, fun k v hk => ?_, h9⟩
  obtain ⟨b, M, g1, g2, g3, g4, g5⟩ := h8 k v hk
  exact ⟨b, M, g1, g2, g3, g4.chg hc (hn _ g2), g5⟩
def noJar : ByteArray → ByteArray → Option Ent := fun _ _ => none
/-- What New returns. -/
def NewJarPost (pv : Value) (w : World) (r : Ending) (w' : World) : Prop := ∃ jb F, r = .returned (.tuple #[.pointer (some ⟨jb, 0, none⟩), .nilIface]) ∧ JarAt w' jb pv F noJar 0 ∧ (∀ b, F b → w.heap.size ≤ b ∧ b < w'.heap.size) ∧ Below w.heap.size w w'
theorem jar_new (w : World) (W : World) (pv : Value) (hb : Below w.heap.size w W) (hs : W.heap.size = w.heap.size + 2) (hm : MapIs W w.heap.size fun _ => none) (hr : RowAt W (w.heap.size + 1) 0 [pv, .map (some w.heap.size), .int .u64 0]) (hl : Loose W (w.heap.size + 1)) :
    NewJarPost pv w (.returned (.tuple #[.pointer (some ⟨w.heap.size + 1, 0, none⟩), .nilIface])) W :=
  ⟨w.heap.size + 1, fun b => w.heap.size ≤ b ∧ b < w.heap.size + 2, rfl, ⟨⟨w.heap.size, fun _ => none, hr, hl, hm, ⟨by omega, by omega⟩, ⟨by omega, by omega⟩, by omega, fun _ _ _ => rfl, fun k v hk => by simp at hk, fun k k' v hk => by simp at hk⟩⟩, fun b hb => by omega, hb⟩
set_option maxRecDepth 100000 in
set_option maxHeartbeats 800000 in
theorem New_any (ob : Nat) (pv : Value) (w : World) (h : w.cell? ⟨ob, 0, none⟩ = some pv) (hob : ob < w.heap.size) (hpv : pv = .nilIface ∨ ∃ v, pv = .iface 66 v) :
    Calls Tryz.prog 35 #[.pointer (some ⟨ob, 0, none⟩)] w (NewJarPost pv w) := by
  have hne : ob ≠ w.heap.size := by omega
  have hne1 : ob ≠ w.heap.size + 1 := by omega
  have hm0 := MapIs.made w
  have key : ∀ v : Value, MapIs ((w.alloc (.map #[] 0)).alloc (.cells #[v, .map (some w.heap.size), .int .u64 0] 91)) w.heap.size fun _ => none := fun v =>
    hm0.chg (Chg.of_new ((Below.refl _ _).alloc (Nat.le_refl _) _) (fun _ => False)) (fun e => e)
  have keyr : ∀ v : Value, RowAt ((w.alloc (.map #[] 0)).alloc (.cells #[v, .map (some w.heap.size), .int .u64 0] 91)) (w.heap.size + 1) 0 [v, .map (some w.heap.size), .int .u64 0] := fun v => by
    simpa using RowAt.new (w.alloc (.map #[] 0)) [v, .map (some w.heap.size), .int .u64 0] 91
  have keyl : ∀ v : Value, Loose ((w.alloc (.map #[] 0)).alloc (.cells #[v, .map (some w.heap.size), .int .u64 0] 91)) (w.heap.size + 1) := fun v i => by simp [go_sem]
  have Hk := Lib.hid key
  have Hkr := Lib.hid keyr
  have Hkl := Lib.hid keyl
  clear key keyr keyl hm0
  rcases hpv with rfl | ⟨v, rfl⟩
  all_goals
    go_enter Tryz.func35, Tryz.ntmps35
    go_wp2
    rw [run_makeMap]
    go_wp2
    go_returns
    exact jar_new w _ _ (two_alloc _ _ _) (by simp) (Hk.out _) (Hkr.out _) (Hkl.out _)
end Go.Proofs.YtcofblepdfjhjaaGreatDoor
