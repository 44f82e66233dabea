/- Walks: a cookie of the package, a new jar. -/
import Derived.Test.YtcofblepdfjhjaaGreatDoorW20
import Derived.Test.YtcofblepdfjhjaaGreatDoorW12
namespace Go.Proofs.YtcofblepdfjhjaaGreatDoor
open Go.RowKit
/-- Cells in a block of its own. -/
def PtrPost (us : List Value) (w : World) (r : Ending) (w' : World) : Prop := ∃ b, r = .returned (.pointer (some ⟨b, 0, none⟩)) ∧ w.heap.size ≤ b ∧ RowAt w' b 0 us ∧ b < w'.heap.size ∧ Below w.heap.size w w'
theorem RowAt.new (w : World) (us : List Value) (t : TypeId) : RowAt (w.alloc (.cells us.toArray t)) w.heap.size 0 us := (VarAt.new w us t).1
set_option maxRecDepth 100000 in
set_option maxHeartbeats 800000 in
theorem cookie_any (c : PCookie) (w : World) : Calls Tryz.prog 38 #[.agg (ckCells c).toArray] w (PtrPost (pkCells c) w) := by
  have HU := fun W => Unix_any c.expires W
  unfold tv at HU
  unfold ckCells
  by_cases h : c.expires = 0
  · have h' : (c.expires != 0) = false := by simp [h]
    have e0 : pkCells c = [.string c.name, .string c.value, .bool false, .string c.path, .string c.domain, .int .i64 0, .int .i64 0, .int .i64 c.maxAge, .bool c.secure, .bool false] := by rw [pkCells, h]
    rw [e0]
    clear h e0
    go_enter Tryz.func38, Tryz.ntmps38
    go_wp2
    go_ret
    refine ⟨w.heap.size + 1, rfl, by omega, ?_, by simp, two_alloc _ _ _⟩
    have := RowAt.new (w.alloc (.cells #[.string c.name, .string c.value, .string c.domain, .string c.path, .int .i64 c.maxAge, .int .i64 c.expires, .bool c.secure] 47)) [.string c.name, .string c.value, .bool false, .string c.path, .string c.domain, .int .i64 0, .int .i64 0, .int .i64 c.maxAge, .bool c.secure, .bool false] 81
    simpa using this
  · have h' : (c.expires != 0) = true := by simp [h]
    clear h
    go_enter Tryz.func38, Tryz.ntmps38
    go_wp2_with fail
    refine (HU _).mono ?_
    rintro r w1 ⟨rfl, hb⟩
    have hr0 := RowAt.new (w.alloc (.cells #[.string c.name, .string c.value, .string c.domain, .string c.path, .int .i64 c.maxAge, .int .i64 c.expires, .bool c.secure] 47)) [.string c.name, .string c.value, .bool false, .string c.path, .string c.domain, .int .i64 0, .int .i64 0, .int .i64 c.maxAge, .bool c.secure, .bool false] 81
    have hl0 : Loose ((w.alloc (.cells #[.string c.name, .string c.value, .string c.domain, .string c.path, .int .i64 c.maxAge, .int .i64 c.expires, .bool c.secure] 47)).alloc (.cells #[.string c.name, .string c.value, .bool false, .string c.path, .string c.domain, .int .i64 0, .int .i64 0, .int .i64 c.maxAge, .bool c.secure, .bool false] 81)) (w.heap.size + 1) := fun i => by simp [go_sem]
    simp only [World.size_alloc] at hr0
    have hr1 := hr0.below hb (by simp)
    have hl1 := hl0.below hb (by simp)
    have q5 := hl1 5
    have q6 := hl1 6
    have r5 : w1.cell? ⟨w.heap.size + 1, 5, none⟩ = some (.int .i64 0) := by simpa using hr1.at 5 _ rfl
    have r6 : w1.cell? ⟨w.heap.size + 1, 6, none⟩ = some (.int .i64 0) := by simpa using hr1.at 6 _ rfl
    have hsz := hb.size
    have hb' := (two_alloc w _ _).trans (hb.mono (by simp; omega))
    clear hr0 hl0 hb
    go_wp2
    go_ret
    exact ⟨w.heap.size + 1, rfl, by omega, (hr1.set 5 _).set 6 _, by simp at hsz ⊢; omega, (hb'.setCell (by simp) _).setCell (by simp) _⟩
end Go.Proofs.YtcofblepdfjhjaaGreatDoor
