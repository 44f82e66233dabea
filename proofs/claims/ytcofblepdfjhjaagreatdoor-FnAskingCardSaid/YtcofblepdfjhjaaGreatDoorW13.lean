/- Walks: times (whole seconds). -/
import Derived.Test.YtcofblepdfjhjaaGreatDoorMem
import Derived.Test.YtcofblepdfjhjaaGreatDoorW11
import Derived.Test.YtcofblepdfjhjaaGreatDoorSMap
namespace Go.Proofs.YtcofblepdfjhjaaGreatDoor
open Go.RowKit
/-- A time of whole seconds. -/
def tv (s : Int) : Value := .agg #[.int .i64 s, .int .i64 0]
def cmpI (s u : Int) : Int := if s < u then -1 else if s = u then 0 else 1
set_option maxRecDepth 100000 in
set_option maxHeartbeats 800000 in
theorem tCompare_any (s u : Int) (w : World) : Calls Tryz.prog 61 #[tv s, tv u] w fun e w' => e = .returned (.int .i64 (cmpI s u)) ∧ Below w.heap.size w w' := by
  unfold tv
  by_cases h1 : s < u
  · have HC : Hid (cmpI s u = -1) := by show _ = _; rw [cmpI, if_pos h1]
    have h1' : decide (s < u) = true := by simp [h1]
    go_enter Tryz.func61, Tryz.ntmps61
    go_wp2
    go_ret
    rw [HC.out]
    exact ⟨rfl, by simpa using (((Below.refl w.heap.size w).alloc (Nat.le_refl _) _).alloc (by simp) _)⟩
  · have h1' : decide (s < u) = false := by simp [h1]
    by_cases h2 : s = u
    · subst h2
      have HC : Hid (cmpI s s = 0) := by show _ = _; rw [cmpI, if_neg h1, if_pos rfl]
      go_enter Tryz.func61, Tryz.ntmps61
      go_wp2
      go_ret
      rw [HC.out]
      exact ⟨rfl, by simpa using (((Below.refl w.heap.size w).alloc (Nat.le_refl _) _).alloc (by simp) _)⟩
    · have HC : Hid (cmpI s u = 1) := by show _ = _; rw [cmpI, if_neg h1, if_neg h2]
      have h2' : (s == u) = false := by simp [h2]
      go_enter Tryz.func61, Tryz.ntmps61
      go_wp2
      go_ret
      rw [HC.out]
      exact ⟨rfl, by simpa using (((Below.refl w.heap.size w).alloc (Nat.le_refl _) _).alloc (by simp) _)⟩
theorem cmpI_pos (s u : Int) : (cmpI s u > 0) = (u < s) := by
  unfold cmpI
  apply propext
  split
  · omega
  · split <;> omega
theorem two_alloc (w : World) (a b : Obj) : Below w.heap.size w ((w.alloc a).alloc b) := by simpa using (((Below.refl w.heap.size w).alloc (Nat.le_refl _) a).alloc (by simp) b)
set_option maxRecDepth 100000 in
set_option maxHeartbeats 800000 in
theorem tAfter_any (s u : Int) (w : World) : Calls Tryz.prog 57 #[tv s, tv u] w fun e w' => e = .returned (.bool (decide (u < s))) ∧ Below w.heap.size w w' := by
  have HC := fun W => tCompare_any s u W
  unfold tv at *
  by_cases h1 : u < s
  · have hc : cmpI s u = 1 := by unfold cmpI; rw [if_neg (by omega), if_neg (by omega)]
    rw [hc] at HC
    have hd : decide (u < s) = true := by simp [h1]
    rw [hd]
    clear hc hd h1
    go_enter Tryz.func57, Tryz.ntmps57
    go_wp2_with fail
    refine (HC _).mono ?_
    rintro e w1 ⟨rfl, hb⟩
    go_wp2_with fail
    go_ret
    exact ⟨rfl, (two_alloc w _ _).trans (hb.mono (by simp; omega))⟩
  · have hd : decide (u < s) = false := by simp [h1]
    rw [hd]
    have hc : cmpI s u = -1 ∨ cmpI s u = 0 := by unfold cmpI; by_cases h2 : s < u; exact Or.inl (if_pos h2); right; rw [if_neg h2, if_pos (by omega)]
    rcases hc with hc | hc <;>
    · rw [hc] at HC
      clear hc hd h1
      go_enter Tryz.func57, Tryz.ntmps57
      go_wp2_with fail
      refine (HC _).mono ?_
      rintro e w1 ⟨rfl, hb⟩
      go_wp2_with fail
      go_ret
      exact ⟨rfl, (two_alloc w _ _).trans (hb.mono (by simp; omega))⟩
end Go.Proofs.YtcofblepdfjhjaaGreatDoor
