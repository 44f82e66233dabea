/- Walks: slices.Equal over pairs. -/
import Derived.Test.YtcofblepdfjhjaaDoorMem
import Derived.Deep.Cut
namespace Go.Proofs.YtcofblepdfjhjaaDoor
open Go.RowKit
theorem take_snoc' {α : Type} {l : List α} {k : Nat} {x : α} (h : l[k]? = some x) : l.take (k + 1) = l.take k ++ [x] := by
  rw [List.take_add_one, h]; rfl
theorem cell_lt {w : World} {b o : Nat} {u : Value} (h : w.cell? ⟨b, o, none⟩ = some u) : b < w.heap.size := by
  cases ho : w.heap[b]? with
  | none => simp [World.cell?, ho] at h
  | some o => exact (Array.getElem?_eq_some_iff.1 ho).1
set_option maxRecDepth 100000 in
set_option maxHeartbeats 1600000 in
theorem eqPair_raw (ao bo : Option Addr) (b off cap b' off' cap' : Nat) (ps qs : List (ByteArray × ByteArray)) (w : World) (h1 : 0 < ps.length → ao = some ⟨b, off, none⟩) (h2 : 0 < qs.length → bo = some ⟨b', off', none⟩)
    (hp : ∀ j p, ps[j]? = some p → w.cell? ⟨b, off + j * 2, none⟩ = some (.string p.1) ∧ w.cell? ⟨b, off + j * 2 + 1, none⟩ = some (.string p.2))
    (hq : ∀ j p, qs[j]? = some p → w.cell? ⟨b', off' + j * 2, none⟩ = some (.string p.1) ∧ w.cell? ⟨b', off' + j * 2 + 1, none⟩ = some (.string p.2)) (hl : ps.length ≤ 2147483647) :
    Calls Tryd.prog 26 #[.slice ao ps.length cap, .slice bo qs.length cap'] w fun r w' => r = .returned (.bool (decide (ps = qs))) ∧ Below w.heap.size w w' := by
  have HP := Lib.hid hp
  have HQ := Lib.hid hq
  have H1 := Lib.hid h1
  have H2 := Lib.hid h2
  clear hp hq h1 h2
  by_cases hlen : ps.length = qs.length
  · rw [← hlen]
    have HLEN := Lib.hid hlen
    clear hlen
    go_enter Tryd.func26, Tryd.ntmps26
    go_wp2
    go_loopw [13] (fun i wr => ∃ k : Nat, k ≤ ps.length ∧ i = .int .i64 k ∧ Below w.heap.size w wr ∧ Hid (ps.take k = qs.take k)) (fun i _ => ps.length - (intOf i).toNat)
    case atStart => exact ⟨0, Nat.zero_le _, rfl, Below.refl _ _, rfl⟩
    case round =>
      obtain ⟨k, hk, rfl, hbel, hrel⟩ := hrel
      by_cases hlt : k < ps.length
      · have hlt' : k < qs.length := by rw [← HLEN.out]; exact hlt
        obtain ⟨p1, p2⟩ := HP.out k ps[k] (List.getElem?_eq_getElem hlt)
        obtain ⟨q1, q2⟩ := HQ.out k qs[k] (List.getElem?_eq_getElem hlt')
        obtain rfl := H1.out (by omega)
        obtain rfl := H2.out (by have := HLEN.out; omega)
        have hx : ps[k]? = some ps[k] := List.getElem?_eq_getElem hlt
        have hy : qs[k]? = some qs[k] := List.getElem?_eq_getElem hlt'
        generalize ps[k] = x at *
        generalize qs[k] = y at *
        obtain ⟨x1, x2⟩ := x
        obtain ⟨y1, y2⟩ := y
        simp only [] at p1 p2 q1 q2
        have HX := Lib.hid hx
        have HY := Lib.hid hy
        have l1 := cell_lt p1
        have l2 := cell_lt q1
        have r1 : wr.cell? ⟨b, off + k * 2, none⟩ = some (.string x1) := (hbel.cell (p := ⟨b, off + k * 2, none⟩) l1).trans p1
        have r2 : wr.cell? ⟨b, off + k * 2 + 1, none⟩ = some (.string x2) := (hbel.cell (p := ⟨b, off + k * 2 + 1, none⟩) l1).trans p2
        have r3 : wr.cell? ⟨b', off' + k * 2, none⟩ = some (.string y1) := (hbel.cell (p := ⟨b', off' + k * 2, none⟩) l2).trans q1
        have r4 : wr.cell? ⟨b', off' + k * 2 + 1, none⟩ = some (.string y2) := (hbel.cell (p := ⟨b', off' + k * 2 + 1, none⟩) l2).trans q2
        clear hx hy p1 p2 q1 q2
        go_upto_region 6 with (fail)
        by_cases e1 : x1 = y1
        · by_cases e2 : x2 = y2
          · subst e1 e2
            go_quiet (fail)
            go_wp2
            go_round
            case rel => exact ⟨k + 1, by omega, by go_num, below_drewN hbel _, by show _ = _; rw [take_snoc' HX.out, take_snoc' HY.out, hrel.out]⟩
            case measure => simp [intOf]; omega
          · have f2 : (x2.toList == y2.toList) = false := by rw [toList_lst, toList_lst, beq_eq_false_iff_ne]; exact fun e => e2 (lst_inj e)
            have HN : Hid (ps ≠ qs) := by
              show _ ≠ _
              intro e
              have a := HX.out
              rw [e, HY.out] at a
              exact e2 (congrArg Prod.snd (Option.some.inj a)).symm
            subst e1
            clear e2
            go_quiet (fail)
            go_wp2
            go_ret
            exact ⟨ret_bool (decide_eq_false HN.out).symm, below_drewN hbel _⟩
        · have f1 : (x1.toList == y1.toList) = false := by rw [toList_lst, toList_lst, beq_eq_false_iff_ne]; exact fun e => e1 (lst_inj e)
          have HN : Hid (ps ≠ qs) := by
            show _ ≠ _
            intro e
            have a := HX.out
            rw [e, HY.out] at a
            exact e1 (congrArg Prod.fst (Option.some.inj a)).symm
          clear e1
          go_quiet (fail)
          go_wp2
          go_ret
          exact ⟨ret_bool (decide_eq_false HN.out).symm, below_drewN hbel _⟩
      · go_wp2
        go_ret
        have hk' : k = ps.length := by omega
        subst hk'
        have hr := hrel.out
        rw [List.take_length, HLEN.out, List.take_length] at hr
        exact ⟨ret_bool (decide_eq_true hr).symm, hbel⟩
  · have e1 : ((ps.length : Int) == (qs.length : Int)) = false := beq_eq_false_iff_ne.2 (by omega)
    have hne : ps ≠ qs := fun e => hlen (by rw [e])
    have HN := Lib.hid hne
    clear hne hlen
    go_enter Tryd.func26, Tryd.ntmps26
    go_wp2
    go_ret
    exact ⟨ret_bool (decide_eq_false HN.out).symm, Below.refl _ _⟩
end Go.Proofs.YtcofblepdfjhjaaDoor
