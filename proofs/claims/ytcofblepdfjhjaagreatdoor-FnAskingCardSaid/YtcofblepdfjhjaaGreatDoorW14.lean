/- Walks: times whose result lies in a cell. -/
import Derived.Test.YtcofblepdfjhjaaGreatDoorW13
import Derived.Laws.Rows
import Derived.Deep.QuietTactic
import Derived.BigQuiet
namespace Go.Proofs.YtcofblepdfjhjaaGreatDoor
open Go.RowKit
set_option maxRecDepth 100000 in
set_option maxHeartbeats 800000 in
theorem Unix_any (s : Int) (w : World) : Calls Tryz.prog 36 #[.int .i64 s, .int .i64 0] w fun e w' => e = .returned (tv s) ∧ Below w.heap.size w w' := by
  unfold tv
  go_enter Tryz.func36, Tryz.ntmps36
  go_wp2
  refine bodyPost_ret (v := .agg #[.int .i64 s, .int .i64 0]) (results_cell_row rfl _ _ w.heap.size _ _ _ _ rfl (heap_alloc_new _ _) rfl rfl rfl) rfl ?_
  exact ⟨rfl, by simpa using (((Below.refl w.heap.size w).alloc (Nat.le_refl _) _))⟩
set_option maxRecDepth 100000 in
set_option maxHeartbeats 800000 in
theorem endOfTime_any (w : World) : Calls Tryz.prog 85 #[] w fun e w' => e = .returned (tv 253402300799) ∧ Below w.heap.size w w' := by
  unfold tv
  go_enter Tryz.func85, Tryz.ntmps85
  go_wp2
  refine bodyPost_ret (v := .agg #[.int .i64 253402300799, .int .i64 0]) (results_cell_row rfl _ _ w.heap.size _ _ _ _ rfl (heap_alloc_new _ _) rfl rfl rfl) rfl ?_
  exact ⟨rfl, by simpa using (((Below.refl w.heap.size w).alloc (Nat.le_refl _) _))⟩
set_option maxRecDepth 100000 in
set_option maxHeartbeats 800000 in
theorem tIsZero_any (s : Int) (w : World) : Calls Tryz.prog 84 #[tv s] w fun e w' => e = .returned (.bool (decide (s = 0))) ∧ Below w.heap.size w w' := by
  unfold tv
  by_cases h : s = 0
  · have hd : decide (s = 0) = true := by simp [h]
    have h' : (s == 0) = true := by simp [h]
    rw [hd]
    clear hd h
    go_enter Tryz.func84, Tryz.ntmps84
    go_wp2
    go_ret
    exact ⟨rfl, by simpa using (((Below.refl w.heap.size w).alloc (Nat.le_refl _) _))⟩
  · have hd : decide (s = 0) = false := by simp [h]
    have h' : (s == 0) = false := by simp [h]
    rw [hd]
    clear hd h
    go_enter Tryz.func84, Tryz.ntmps84
    go_wp2
    go_ret
    exact ⟨rfl, by simpa using (((Below.refl w.heap.size w).alloc (Nat.le_refl _) _))⟩
set_option maxRecDepth 100000 in
set_option maxHeartbeats 800000 in
theorem tAdd_any (s m : Int) (w : World) (hs : 0 ≤ s ∧ s ≤ 4294967296) (hm : 0 < m ∧ m ≤ 4294967296) :
    Calls Tryz.prog 83 #[tv s, .int .i64 (m * 1000000000)] w fun e w' => e = .returned (tv (s + m)) ∧ Below w.heap.size w w' := by
  unfold tv
  have hq : Int.tdiv (m * 1000000000) 1000000000 = m := Int.mul_tdiv_cancel _ (by decide)
  have hr : Int.tmod (m * 1000000000) 1000000000 = 0 := Int.mul_tmod_left _ _
  have Hw : Hid (IntKind.i64.wrap (s + m) = s + m) := by
    show _ = _
    simp [IntKind.wrap, IntKind.bits]; omega
  have Hw0 : IntKind.i64.wrap m = m := by simp [IntKind.wrap, IntKind.bits]; omega
  have Hw' := Hw.out
  have hn : decide (s + m < 0) = false := by simp; omega
  go_enter Tryz.func83, Tryz.ntmps83
  go_wp2_with fail
  go_quiet (fail)
  go_wp2
  refine bodyPost_ret (v := .agg #[.int .i64 (s + m), .int .i64 0]) ?_ rfl ?_
  · simp [results, Tryz.results83, go_sem]
  refine ⟨rfl, ?_⟩
  exact ((below_drewN (two_alloc _ _ _) _).setCell (by simp) _).setCell (by simp) _
end Go.Proofs.YtcofblepdfjhjaaGreatDoor
