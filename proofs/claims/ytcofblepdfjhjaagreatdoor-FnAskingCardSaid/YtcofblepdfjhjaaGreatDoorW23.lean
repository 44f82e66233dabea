/- Walks: the order of the entries that are sent. -/
import Derived.Test.YtcofblepdfjhjaaGreatDoorW15
import Derived.Sort.Grow
namespace Go.Proofs.YtcofblepdfjhjaaGreatDoor
open Go.RowKit Go.Sort
/-- What a comparison leaves behind: draws and new blocks. -/
def GrowPost (v : Value) (w : World) (r : Ending) (w' : World) : Prop := r = .returned v ∧ ∃ os, w' = grow w os
theorem grow2 (w : World) (a b : Obj) : (w.alloc a).alloc b = grow w (#[a] ++ #[b]) := by rw [alloc_eq_grow, alloc_eq_grow, grow_grow]
set_option maxRecDepth 100000 in
set_option maxHeartbeats 800000 in
theorem tCompare_grow (s u : Int) (w : World) : Calls Tryz.prog 61 #[tv s, tv u] w (GrowPost (.int .i64 (cmpI s u)) w) := by
  unfold tv
  by_cases h1 : s < u
  · have HC : Hid (cmpI s u = -1) := by show _ = _; rw [cmpI, if_pos h1]
    have h1' : decide (s < u) = true := by simp [h1]
    go_enter Tryz.func61, Tryz.ntmps61
    go_wp2
    go_ret
    unfold GrowPost
    rw [HC.out]
    exact ⟨rfl, _, grow2 _ _ _⟩
  · have h1' : decide (s < u) = false := by simp [h1]
    by_cases h2 : s = u
    · subst h2
      have HC : Hid (cmpI s s = 0) := by show _ = _; rw [cmpI, if_neg h1, if_pos rfl]
      go_enter Tryz.func61, Tryz.ntmps61
      go_wp2
      go_ret
      unfold GrowPost
      rw [HC.out]
      exact ⟨rfl, _, grow2 _ _ _⟩
    · have HC : Hid (cmpI s u = 1) := by show _ = _; rw [cmpI, if_neg h1, if_neg h2]
      have h2' : (s == u) = false := by simp [h2]
      go_enter Tryz.func61, Tryz.ntmps61
      go_wp2
      go_ret
      unfold GrowPost
      rw [HC.out]
      exact ⟨rfl, _, grow2 _ _ _⟩
/-- How two entries stand: by longer (greater) paths, then by when they were made, then by number. -/
def cmpE (x y : Ent) : Int :=
  if x.path = y.path then (if cmpI x.cre y.cre = 0 then (if x.seq < y.seq then -1 else if y.seq < x.seq then 1 else 0) else cmpI x.cre y.cre)
  else if Op.bytesLess y.path.toList x.path.toList then -1 else 1
theorem grow_below (w : World) (os : Array Obj) : Below w.heap.size w (grow w os) := ⟨rfl, rfl, rfl, by simp [grow], fun k hk => by simp [grow, Array.getElem?_append_left hk]⟩
set_option maxRecDepth 100000 in
set_option maxHeartbeats 3200000 in
theorem cookiesCmp_any (x y : Ent) (la : Int) (w : World) : Calls Tryz.prog 60 #[entVal x la, entVal y la] w (GrowPost (.int .i64 (cmpE x y)) w) := by
  unfold entVal entCells
  by_cases hp : x.path = y.path
  · have hp' : (x.path.toList == y.path.toList) = true := by rw [beq_str, decide_eq_true hp]
    have HT := fun W => tCompare_grow x.cre y.cre W
    unfold tv at HT
    by_cases hc : cmpI x.cre y.cre = 0
    · rw [hc] at HT
      by_cases h1 : x.seq < y.seq
      · have HE : Hid (cmpE x y = -1) := by show _ = _; rw [cmpE, if_pos hp, if_pos hc, if_pos h1]
        have h1' : decide ((x.seq : Int) < y.seq) = true := decide_eq_true (by omega)
        clear hp hc
        go_enter Tryz.func60, Tryz.ntmps60
        go_wp2_with fail
        refine (HT _).mono ?_
        rintro r w1 ⟨rfl, os, rfl⟩
        rw [grow2, grow_grow]
        have hx : (grow w ((#[(.cells #[.string x.name, .string x.value, .bool false, .string x.domain, .string x.path, .bool x.secure, .bool false, .bool x.persistent, .bool x.hostOnly, .int .i64 x.exp, .int .i64 0, .int .i64 x.cre, .int .i64 0, .int .i64 la, .int .i64 0, .int .u64 x.seq] 109)] ++ #[(.cells #[.string y.name, .string y.value, .bool false, .string y.domain, .string y.path, .bool y.secure, .bool false, .bool y.persistent, .bool y.hostOnly, .int .i64 y.exp, .int .i64 0, .int .i64 y.cre, .int .i64 0, .int .i64 la, .int .i64 0, .int .u64 y.seq] 109)]) ++ os)).cell? ⟨w.heap.size, 15, none⟩ = some (.int .u64 x.seq) := by
          rw [← grow_grow, ← grow2, (grow_below _ os).cell (by simp; try omega)]; simp [go_sem]
        have hy : (grow w ((#[(.cells #[.string x.name, .string x.value, .bool false, .string x.domain, .string x.path, .bool x.secure, .bool false, .bool x.persistent, .bool x.hostOnly, .int .i64 x.exp, .int .i64 0, .int .i64 x.cre, .int .i64 0, .int .i64 la, .int .i64 0, .int .u64 x.seq] 109)] ++ #[(.cells #[.string y.name, .string y.value, .bool false, .string y.domain, .string y.path, .bool y.secure, .bool false, .bool y.persistent, .bool y.hostOnly, .int .i64 y.exp, .int .i64 0, .int .i64 y.cre, .int .i64 0, .int .i64 la, .int .i64 0, .int .u64 y.seq] 109)]) ++ os)).cell? ⟨w.heap.size + 1, 15, none⟩ = some (.int .u64 y.seq) := by
          rw [← grow_grow, ← grow2, (grow_below _ os).cell (by simp; try omega)]; simp [go_sem]
        generalize (#[(.cells #[.string x.name, .string x.value, .bool false, .string x.domain, .string x.path, .bool x.secure, .bool false, .bool x.persistent, .bool x.hostOnly, .int .i64 x.exp, .int .i64 0, .int .i64 x.cre, .int .i64 0, .int .i64 la, .int .i64 0, .int .u64 x.seq] 109)] ++ #[(.cells #[.string y.name, .string y.value, .bool false, .string y.domain, .string y.path, .bool y.secure, .bool false, .bool y.persistent, .bool y.hostOnly, .int .i64 y.exp, .int .i64 0, .int .i64 y.cre, .int .i64 0, .int .i64 la, .int .i64 0, .int .u64 y.seq] 109)]) ++ os = os2 at *
        go_wp2
        go_ret
        unfold GrowPost
        rw [HE.out]
        exact ⟨rfl, _, rfl⟩
      · by_cases h2 : y.seq < x.seq
        · have HE : Hid (cmpE x y = 1) := by show _ = _; rw [cmpE, if_pos hp, if_pos hc, if_neg h1, if_pos h2]
          have h1' : decide ((x.seq : Int) < y.seq) = false := decide_eq_false (by omega)
          have h2' : decide ((y.seq : Int) < x.seq) = true := decide_eq_true (by omega)
          clear hp hc
          go_enter Tryz.func60, Tryz.ntmps60
          go_wp2_with fail
          refine (HT _).mono ?_
          rintro r w1 ⟨rfl, os, rfl⟩
          rw [grow2, grow_grow]
          have hx : (grow w ((#[(.cells #[.string x.name, .string x.value, .bool false, .string x.domain, .string x.path, .bool x.secure, .bool false, .bool x.persistent, .bool x.hostOnly, .int .i64 x.exp, .int .i64 0, .int .i64 x.cre, .int .i64 0, .int .i64 la, .int .i64 0, .int .u64 x.seq] 109)] ++ #[(.cells #[.string y.name, .string y.value, .bool false, .string y.domain, .string y.path, .bool y.secure, .bool false, .bool y.persistent, .bool y.hostOnly, .int .i64 y.exp, .int .i64 0, .int .i64 y.cre, .int .i64 0, .int .i64 la, .int .i64 0, .int .u64 y.seq] 109)]) ++ os)).cell? ⟨w.heap.size, 15, none⟩ = some (.int .u64 x.seq) := by
            rw [← grow_grow, ← grow2, (grow_below _ os).cell (by simp; try omega)]; simp [go_sem]
          have hy : (grow w ((#[(.cells #[.string x.name, .string x.value, .bool false, .string x.domain, .string x.path, .bool x.secure, .bool false, .bool x.persistent, .bool x.hostOnly, .int .i64 x.exp, .int .i64 0, .int .i64 x.cre, .int .i64 0, .int .i64 la, .int .i64 0, .int .u64 x.seq] 109)] ++ #[(.cells #[.string y.name, .string y.value, .bool false, .string y.domain, .string y.path, .bool y.secure, .bool false, .bool y.persistent, .bool y.hostOnly, .int .i64 y.exp, .int .i64 0, .int .i64 y.cre, .int .i64 0, .int .i64 la, .int .i64 0, .int .u64 y.seq] 109)]) ++ os)).cell? ⟨w.heap.size + 1, 15, none⟩ = some (.int .u64 y.seq) := by
            rw [← grow_grow, ← grow2, (grow_below _ os).cell (by simp; try omega)]; simp [go_sem]
          generalize (#[(.cells #[.string x.name, .string x.value, .bool false, .string x.domain, .string x.path, .bool x.secure, .bool false, .bool x.persistent, .bool x.hostOnly, .int .i64 x.exp, .int .i64 0, .int .i64 x.cre, .int .i64 0, .int .i64 la, .int .i64 0, .int .u64 x.seq] 109)] ++ #[(.cells #[.string y.name, .string y.value, .bool false, .string y.domain, .string y.path, .bool y.secure, .bool false, .bool y.persistent, .bool y.hostOnly, .int .i64 y.exp, .int .i64 0, .int .i64 y.cre, .int .i64 0, .int .i64 la, .int .i64 0, .int .u64 y.seq] 109)]) ++ os = os2 at *
          go_wp2
          go_ret
          unfold GrowPost
          rw [HE.out]
          exact ⟨rfl, _, rfl⟩
        · have HE : Hid (cmpE x y = 0) := by show _ = _; rw [cmpE, if_pos hp, if_pos hc, if_neg h1, if_neg h2]
          have h1' : decide ((x.seq : Int) < y.seq) = false := decide_eq_false (by omega)
          have h2' : decide ((y.seq : Int) < x.seq) = false := decide_eq_false (by omega)
          clear hp hc
          go_enter Tryz.func60, Tryz.ntmps60
          go_wp2_with fail
          refine (HT _).mono ?_
          rintro r w1 ⟨rfl, os, rfl⟩
          rw [grow2, grow_grow]
          have hx : (grow w ((#[(.cells #[.string x.name, .string x.value, .bool false, .string x.domain, .string x.path, .bool x.secure, .bool false, .bool x.persistent, .bool x.hostOnly, .int .i64 x.exp, .int .i64 0, .int .i64 x.cre, .int .i64 0, .int .i64 la, .int .i64 0, .int .u64 x.seq] 109)] ++ #[(.cells #[.string y.name, .string y.value, .bool false, .string y.domain, .string y.path, .bool y.secure, .bool false, .bool y.persistent, .bool y.hostOnly, .int .i64 y.exp, .int .i64 0, .int .i64 y.cre, .int .i64 0, .int .i64 la, .int .i64 0, .int .u64 y.seq] 109)]) ++ os)).cell? ⟨w.heap.size, 15, none⟩ = some (.int .u64 x.seq) := by
            rw [← grow_grow, ← grow2, (grow_below _ os).cell (by simp; try omega)]; simp [go_sem]
          have hy : (grow w ((#[(.cells #[.string x.name, .string x.value, .bool false, .string x.domain, .string x.path, .bool x.secure, .bool false, .bool x.persistent, .bool x.hostOnly, .int .i64 x.exp, .int .i64 0, .int .i64 x.cre, .int .i64 0, .int .i64 la, .int .i64 0, .int .u64 x.seq] 109)] ++ #[(.cells #[.string y.name, .string y.value, .bool false, .string y.domain, .string y.path, .bool y.secure, .bool false, .bool y.persistent, .bool y.hostOnly, .int .i64 y.exp, .int .i64 0, .int .i64 y.cre, .int .i64 0, .int .i64 la, .int .i64 0, .int .u64 y.seq] 109)]) ++ os)).cell? ⟨w.heap.size + 1, 15, none⟩ = some (.int .u64 y.seq) := by
            rw [← grow_grow, ← grow2, (grow_below _ os).cell (by simp; try omega)]; simp [go_sem]
          generalize (#[(.cells #[.string x.name, .string x.value, .bool false, .string x.domain, .string x.path, .bool x.secure, .bool false, .bool x.persistent, .bool x.hostOnly, .int .i64 x.exp, .int .i64 0, .int .i64 x.cre, .int .i64 0, .int .i64 la, .int .i64 0, .int .u64 x.seq] 109)] ++ #[(.cells #[.string y.name, .string y.value, .bool false, .string y.domain, .string y.path, .bool y.secure, .bool false, .bool y.persistent, .bool y.hostOnly, .int .i64 y.exp, .int .i64 0, .int .i64 y.cre, .int .i64 0, .int .i64 la, .int .i64 0, .int .u64 y.seq] 109)]) ++ os = os2 at *
          go_wp2
          go_ret
          unfold GrowPost
          rw [HE.out]
          exact ⟨rfl, _, rfl⟩
    · have HE : Hid (cmpE x y = cmpI x.cre y.cre) := by show _ = _; rw [cmpE, if_pos hp, if_neg hc]
      have hc' : (cmpI x.cre y.cre != 0) = true := by simp [hc]
      clear hp hc
      generalize cmpI x.cre y.cre = q at *
      go_enter Tryz.func60, Tryz.ntmps60
      go_wp2_with fail
      refine (HT _).mono ?_
      rintro r w1 ⟨rfl, os, rfl⟩
      rw [grow2, grow_grow]
      go_wp2
      go_ret
      unfold GrowPost
      rw [HE.out]
      exact ⟨rfl, _, rfl⟩
  · have hp' : (x.path.toList == y.path.toList) = false := by rw [beq_str, decide_eq_false hp]
    cases hl : Op.bytesLess y.path.toList x.path.toList
    · have HE : Hid (cmpE x y = 1) := by show _ = _; rw [cmpE, if_neg hp, hl]; rfl
      clear hp
      go_enter Tryz.func60, Tryz.ntmps60
      go_wp2
      go_ret
      unfold GrowPost
      rw [HE.out]
      exact ⟨rfl, _, grow2 _ _ _⟩
    · have HE : Hid (cmpE x y = -1) := by show _ = _; rw [cmpE, if_neg hp, hl]; rfl
      clear hp
      go_enter Tryz.func60, Tryz.ntmps60
      go_wp2
      go_ret
      unfold GrowPost
      rw [HE.out]
      exact ⟨rfl, _, grow2 _ _ _⟩
end Go.Proofs.YtcofblepdfjhjaaGreatDoor
