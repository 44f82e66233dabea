/- Walks: slices.Equal over pairs. A region that draws its order, whose operations only read and whose callees lay blocks of their own alone, walked once, in the order of the text. What the walks of the laws share. -/
import Derived.Test.YtcofblepdfjhjaaGreatDoorMem
import Derived.Deep.Cut
import Derived.Test.YtcofblepdfjhjaaGreatDoorW1
import Derived.Below
import Derived.Deep.QuietTactic
import Derived.Test.YtcofblepdfjhjaaGreatDoorW28
import Derived.Test.YtcofblepdfjhjaaGreatDoorW11
namespace Go.Proofs.YtcofblepdfjhjaaGreatDoor
open Go.RowKit
theorem take_snoc' {α : Type} {l : List α} {k : Nat} {x : α} (h : l[k]? = some x) : l.take (k + 1) = l.take k ++ [x] := by
  rw [List.take_add_one, h]; rfl
theorem cell_lt {w : World} {b o : Nat} {u : Value} (h : w.cell? ⟨b, o, none⟩ = some u) : b < w.heap.size := by
  cases ho : w.heap[b]? with
  | none => simp [World.cell?, ho] at h
  | some o => exact (Array.getElem?_eq_some_iff.1 ho).1
set_option maxRecDepth 100000 in
set_option maxHeartbeats 1600000 in
theorem eqPair_raw (ao bo : Option Addr) (b off cap b' off' cap' : Nat) (ps qs : List (ByteArray × ByteArray)) (w : World) (h1 : 0 < ps.length → ao = some ⟨b, off, none⟩) (h2 : 0 < qs.length → bo = some ⟨b', off', none⟩)
    (hp : ∀ j p, ps[j]? = some p → w.cell? ⟨b, off + j * 2, none⟩ = some (.string p.1) ∧ w.cell? ⟨b, off + j * 2 + 1, none⟩ = some (.string p.2))
    (hq : ∀ j p, qs[j]? = some p → w.cell? ⟨b', off' + j * 2, none⟩ = some (.string p.1) ∧ w.cell? ⟨b', off' + j * 2 + 1, none⟩ = some (.string p.2)) (hl : ps.length ≤ 2147483647) :
    Calls Tryz.prog 29 #[.slice ao ps.length cap, .slice bo qs.length cap'] w fun r w' => r = .returned (.bool (decide (ps = qs))) ∧ Below w.heap.size w w' := by
  have HP := Lib.hid hp
  have HQ := Lib.hid hq
  have H1 := Lib.hid h1
  have H2 := Lib.hid h2
  clear hp hq h1 h2
  by_cases hlen : ps.length = qs.length
  · rw [← hlen]
    have HLEN := Lib.hid hlen
    clear hlen
    go_enter Tryz.func29, Tryz.ntmps29
    go_wp2
    go_loopw [13] (fun i wr => ∃ k : Nat, k ≤ ps.length ∧ i = .int .i64 k ∧ Below w.heap.size w wr ∧ Hid (ps.take k = qs.take k)) (fun i _ => ps.length - (intOf i).toNat)
    case atStart => exact ⟨0, Nat.zero_le _, rfl, Below.refl _ _, rfl⟩
    case round =>
      obtain ⟨k, hk, rfl, hbel, hrel⟩ := hrel
      by_cases hlt : k < ps.length
      · have hlt' : k < qs.length := by rw [← HLEN.out]; exact hlt
        obtain ⟨p1, p2⟩ := HP.out k ps[k] (List.getElem?_eq_getElem hlt)
        obtain ⟨q1, q2⟩ := HQ.out k qs[k] (List.getElem?_eq_getElem hlt')
        obtain rfl := H1.out (by omega)
        obtain rfl := H2.out (by have := HLEN.out; omega)
        have hx : ps[k]? = some ps[k] := List.getElem?_eq_getElem hlt
        have hy : qs[k]? = some qs[k] := List.getElem?_eq_getElem hlt'
        generalize ps[k] = x at *
        generalize qs[k] = y at *
        obtain ⟨x1, x2⟩ := x
        obtain ⟨y1, y2⟩ := y
        simp only [] at p1 p2 q1 q2
        have HX := Lib.hid hx
        have HY := Lib.hid hy
        have l1 := cell_lt p1
        have l2 := cell_lt q1
        have r1 : wr.cell? ⟨b, off + k * 2, none⟩ = some (.string x1) := (hbel.cell (p := ⟨b, off + k * 2, none⟩) l1).trans p1
        have r2 : wr.cell? ⟨b, off + k * 2 + 1, none⟩ = some (.string x2) := (hbel.cell (p := ⟨b, off + k * 2 + 1, none⟩) l1).trans p2
        have r3 : wr.cell? ⟨b', off' + k * 2, none⟩ = some (.string y1) := (hbel.cell (p := ⟨b', off' + k * 2, none⟩) l2).trans q1
        have r4 : wr.cell? ⟨b', off' + k * 2 + 1, none⟩ = some (.string y2) := (hbel.cell (p := ⟨b', off' + k * 2 + 1, none⟩) l2).trans q2
        clear hx hy p1 p2 q1 q2
        go_upto_region 6 with (fail)
        by_cases e1 : x1 = y1
        · by_cases e2 : x2 = y2
          · subst e1 e2
            go_quiet (fail)
            go_wp2
            go_round
            case rel => exact ⟨k + 1, by omega, by go_num, below_drewN hbel _, by show _ = _; rw [take_snoc' HX.out, take_snoc' HY.out, hrel.out]⟩
            case measure => simp [intOf]; omega
          · have f2 : (x2.toList == y2.toList) = false := by rw [toList_lst, toList_lst, beq_eq_false_iff_ne]; exact fun e => e2 (lst_inj e)
            have HN : Hid (ps ≠ qs) := by
              show _ ≠ _
              intro e
              have a := HX.out
              rw [e, HY.out] at a
              exact e2 (congrArg Prod.snd (Option.some.inj a)).symm
            subst e1
            clear e2
            go_quiet (fail)
            go_wp2
            go_ret
            exact ⟨ret_bool (decide_eq_false HN.out).symm, below_drewN hbel _⟩
        · have f1 : (x1.toList == y1.toList) = false := by rw [toList_lst, toList_lst, beq_eq_false_iff_ne]; exact fun e => e1 (lst_inj e)
          have HN : Hid (ps ≠ qs) := by
            show _ ≠ _
            intro e
            have a := HX.out
            rw [e, HY.out] at a
            exact e1 (congrArg Prod.fst (Option.some.inj a)).symm
          clear e1
          go_quiet (fail)
          go_wp2
          go_ret
          exact ⟨ret_bool (decide_eq_false HN.out).symm, below_drewN hbel _⟩
      · go_wp2
        go_ret
        have hk' : k = ps.length := by omega
        subst hk'
        have hr := hrel.out
        rw [List.take_length, HLEN.out, List.take_length] at hr
        exact ⟨ret_bool (decide_eq_true hr).symm, hbel⟩
  · have e1 : ((ps.length : Int) == (qs.length : Int)) = false := beq_eq_false_iff_ne.2 (by omega)
    have hne : ps ≠ qs := fun e => hlen (by rw [e])
    have HN := Lib.hid hne
    clear hne hlen
    go_enter Tryz.func29, Tryz.ntmps29
    go_wp2
    go_ret
    exact ⟨ret_bool (decide_eq_false HN.out).symm, Below.refl _ _⟩
end Go.Proofs.YtcofblepdfjhjaaGreatDoor
namespace Go.Proofs.YtcofblepdfjhjaaGreatDoor
open Go.RowKit
/-- A world that has grown out of W. -/
structure Grew (W : World) where
  w : World
  h : Below W.heap.size W w
instance {W : World} : Inhabited (Grew W) := ⟨⟨W, Below.refl _ _⟩⟩
theorem wp_region_grew {P : Program} {id : Nat} {Q : Exit → Act → World → Prop} {a : Act} {W w : World} {l : List Oper} (hw : Below W.heap.size W w) (hm : P.follows .mixedOrders = true) (hB : Region.lexB .any l.toArray = true)
    (h : wpQuiet P l.toArray (fun w' => ∃ p : Grew W, w' = p.w) (fun a' => ∀ w', (∃ p : Grew W, w' = p.w) → Q .normal a' w') l a) : (Code.region id l.toArray true).wp P Q a w :=
  wp_region_quiet (C := fun w' => ∃ p : Grew W, w' = p.w) hm hB ⟨⟨_, hw.drew⟩, rfl⟩ (by simpa using h)
theorem grew_of {P : Program} {f : FuncId} {args : Array Value} {W : World} {p : Grew W} {v : Value} (h : Calls P f args p.w fun e w' => e = .returned v ∧ Below p.w.heap.size p.w w') :
    Calls P f args p.w fun e w' => e = .returned v ∧ ∃ q : Grew W, w' = q.w :=
  h.mono fun _ _ ⟨he, hb⟩ => ⟨he, ⟨_, p.h.trans (hb.mono p.h.size)⟩, rfl⟩
theorem grew_cell {W : World} {b o : Nat} {u : Value} (h : W.cell? ⟨b, o, none⟩ = some u) (hb : b < W.heap.size) (p : Grew W) : p.w.cell? ⟨b, o, none⟩ = some u := (p.h.cell (p := ⟨b, o, none⟩) hb).trans h
end Go.Proofs.YtcofblepdfjhjaaGreatDoor
namespace Go.Proofs.YtcofblepdfjhjaaGreatDoor
open Go.RowKit
theorem StrsAt.up {W : World} {B B' : Nat} {v : Value} {ls : List ByteArray} (h : StrsAt W B v ls) (hB : B ≤ B') : StrsAt W B' v ls := SliceAt.up h hB
theorem fits1_use {sufs : List ByteArray} (h : fits1 sufs = true) : sufs.length ≤ 2147483647 ∧ ∀ x ∈ sufs, x.size ≤ 2147483647 := by
  unfold fits1 at h
  simpa using h
theorem fits4_use {sc ho pa : ByteArray} (h : fits4 sc ho pa = true) : sc.size ≤ 2147483647 ∧ ho.size ≤ 2147483647 ∧ pa.size ≤ 2147483647 := by
  unfold fits4 at h
  exact of_decide_eq_true h
theorem fits6_use {c : PCookie} (h : fits6 c = true) : c.name.size ≤ 2147483647 ∧ c.value.size ≤ 2147483647 ∧ c.domain.size ≤ 2147483647 ∧ c.path.size ≤ 2147483647 := by
  unfold fits6 at h
  exact of_decide_eq_true h
/-- Three boxed parameters. -/
structure Boxes3 (w W : World) (sa ha pa sb hb pb : ByteArray) (c : PCookie) : Prop where
  bel : Below w.heap.size w W
  a : RowAt W w.heap.size 0 [Value.string sa, .string ha, .string pa]
  b : RowAt W (w.heap.size + 1) 0 [Value.string sb, .string hb, .string pb]
  c : RowAt W (w.heap.size + 2) 0 (ckCells c)
  l : Loose W (w.heap.size + 2)
  sz : W.heap.size = w.heap.size + 3
theorem boxes3 (w : World) (sa ha pa sb hb pb : ByteArray) (c : PCookie) :
    Boxes3 w (((w.alloc (.cells [Value.string sa, .string ha, .string pa].toArray 25)).alloc (.cells [Value.string sb, .string hb, .string pb].toArray 25)).alloc (.cells (ckCells c).toArray 47)) sa ha pa sb hb pb c := by
  have e1 : (w.alloc (.cells [Value.string sa, .string ha, .string pa].toArray 25)).heap.size = w.heap.size + 1 := by simp
  have e2 : ((w.alloc (.cells [Value.string sa, .string ha, .string pa].toArray 25)).alloc (.cells [Value.string sb, .string hb, .string pb].toArray 25)).heap.size = w.heap.size + 2 := by simp
  refine ⟨(((Below.refl _ w).alloc (Nat.le_refl _) _).alloc (by omega) _).alloc (by omega) _, ?_, ?_, ?_, fun i => by simp [go_sem], by simp⟩
  · exact ((RowAt.new w [Value.string sa, .string ha, .string pa] 25).below ((Below.refl (w.heap.size + 1) _).alloc (by omega) _) (by omega)).below ((Below.refl (w.heap.size + 1) _).alloc (by omega) _) (by omega)
  · have h := RowAt.new (w.alloc (.cells [Value.string sa, .string ha, .string pa].toArray 25)) [Value.string sb, .string hb, .string pb] 25
    rw [e1] at h
    exact h.below ((Below.refl (w.heap.size + 2) _).alloc (by omega) _) (by omega)
  · have h := RowAt.new ((w.alloc (.cells [Value.string sa, .string ha, .string pa].toArray 25)).alloc (.cells [Value.string sb, .string hb, .string pb].toArray 25)) (ckCells c) 47
    rw [e2] at h
    exact h
/-- A cookie set, then a question. -/
def saSteps (t1 t2 : Int) (sa ha pa sb hb pb : ByteArray) (c : PCookie) : List PStep := [⟨true, t1, sa, ha, pa, [c]⟩, ⟨false, t2, sb, hb, pb, []⟩]
theorem sa_args {t1 t2 : Int} {X V : World} {b1 : Nat} {sa ha pa sb hb pb : ByteArray} {c : PCookie} (R1 : RowAt X b1 0 (ckCells c) ∧ b1 < X.heap.size)
    (e : V.heap = (X.alloc (.cells (stCells ⟨true, t1, sa, ha, pa, [c]⟩ (.slice (some ⟨b1, 0, none⟩) 1 1) ++ stCells ⟨false, t2, sb, hb, pb, []⟩ (.slice none 0 0)).toArray 32)).heap) :
    StepsAt V V.heap.size (.slice (some ⟨X.heap.size, 0, none⟩) 2 2) (saSteps t1 t2 sa ha pa sb hb pb c) := by
  rw [e]
  exact StepsAt.heap (steps_new X 32 [(⟨true, t1, sa, ha, pa, [c]⟩, .slice (some ⟨b1, 0, none⟩) 1 1), (⟨false, t2, sb, hb, pb, []⟩, .slice none 0 0)] (fun p hp => by
      simp only [List.mem_cons, List.not_mem_nil, or_false] at hp
      rcases hp with rfl | rfl
      · exact cookies_one R1
      · exact cookies_nil _ _)) e
theorem sa_fit {t1 t2 : Int} {sa ha pa sb hb pb : ByteArray} {c : PCookie} (h1 : fits4 sa ha pa = true) (h2 : fits4 sb hb pb = true) (h6 : fits6 c = true) (hc : I64 c.maxAge ∧ I64 c.expires) (ht : I64 t1 ∧ I64 t2) : ∀ s ∈ saSteps t1 t2 sa ha pa sb hb pb c, StFit s := by
  intro s hs
  unfold saSteps at hs
  simp only [List.mem_cons, List.not_mem_nil, or_false] at hs
  rcases hs with rfl | rfl
  · exact fit_one h1 h6 ht.1 hc.1 hc.2
  · exact fit_ask h2 ht.2
theorem eqPair_any {w : World} {Q Q' : Nat → Prop} {u u' : Value} {ps qs : List (ByteArray × ByteArray)} (h : PairsAt w Q u ps) (h' : PairsAt w Q' u' qs) (hl : ps.length ≤ 2147483647) :
    Calls Tryz.prog 29 #[u, u'] w fun r w' => r = .returned (.bool (decide (ps = qs))) ∧ Below w.heap.size w w' := by
  obtain ⟨ao, b, off, cap, rfl, h1, h2⟩ := h
  obtain ⟨ao', b', off', cap', rfl, h1', h2'⟩ := h'
  exact eqPair_raw ao ao' b off cap b' off' cap' ps qs w (fun h => (h1 h).1) (fun h => (h1' h).1) h2 h2' hl
theorem PairsAt.below {w w' : World} {Q : Nat → Prop} {u : Value} {ps : List (ByteArray × ByteArray)} (h : PairsAt w Q u ps) (hb : Below w.heap.size w w') : PairsAt w' Q u ps := by
  obtain ⟨ao, b, off, cap, h1, h2, h3⟩ := h
  refine ⟨ao, b, off, cap, h1, fun hl => ⟨(h2 hl).1, Nat.lt_of_lt_of_le (h2 hl).2.1 hb.size, (h2 hl).2.2⟩, fun j p hj => ?_⟩
  have hlt := (h2 (by have := (List.getElem?_eq_some_iff.1 hj).1; omega)).2.1
  obtain ⟨g1, g2⟩ := h3 j p hj
  exact ⟨(hb.cell (p := ⟨b, off + j * 2, none⟩) hlt).trans g1, (hb.cell (p := ⟨b, off + j * 2 + 1, none⟩) hlt).trans g2⟩
/-- All steps but the first. -/
theorem StepsAt.drop1 {w : World} {B b off n cap : Nat} {s0 : PStep} {r : List PStep} (h : StepsAt w B (.slice (some ⟨b, off, none⟩) n cap) (s0 :: r)) (cap' : Nat) : StepsAt w B (.slice (some ⟨b, off + 6, none⟩) r.length cap') r := by
  obtain ⟨cv, hs, h2⟩ := h.ex
  obtain ⟨ao, b', off', cap1, hv, ha, hc⟩ := hs.ex
  injection hv with e1 e2 e3
  obtain ⟨e4, hlt⟩ := ha (by simp)
  rw [e4] at e1
  injection e1 with e5
  injection e5 with e6 e7
  subst e6 e7
  refine ⟨fun j => cv (j + 1), ⟨_, b, off + 6, cap', rfl, fun _ => ⟨rfl, hlt⟩, fun j hj => ?_⟩, fun j s hj => h2 (j + 1) s (by simpa using hj)⟩
  have := hc (j + 1) (by simp; exact hj)
  have e : off + 6 + j * 6 = off + (j + 1) * 6 := by omega
  rw [e]
  simpa using this
def ssaSteps (sc ho pa : ByteArray) (c d : PCookie) : List PStep := [⟨true, 2, sc, ho, pa, [c]⟩, ⟨true, 3, sc, ho, pa, [d]⟩, ⟨false, 4, httpsB, ho, pa, []⟩]
theorem ssa_args {X V : World} {b1 b2 : Nat} {sc ho pa : ByteArray} {c d : PCookie} (R1 : RowAt X b1 0 (ckCells c) ∧ b1 < X.heap.size) (R2 : RowAt X b2 0 (ckCells d) ∧ b2 < X.heap.size)
    (e : V.heap = (X.alloc (.cells (stCells ⟨true, 2, sc, ho, pa, [c]⟩ (.slice (some ⟨b1, 0, none⟩) 1 1) ++ (stCells ⟨true, 3, sc, ho, pa, [d]⟩ (.slice (some ⟨b2, 0, none⟩) 1 1) ++ stCells ⟨false, 4, httpsB, ho, pa, []⟩ (.slice none 0 0))).toArray 32)).heap) :
    StepsAt V V.heap.size (.slice (some ⟨X.heap.size, 0, none⟩) 3 3) (ssaSteps sc ho pa c d) := by
  rw [e]
  exact StepsAt.heap (steps_new X 32 [(⟨true, 2, sc, ho, pa, [c]⟩, .slice (some ⟨b1, 0, none⟩) 1 1), (⟨true, 3, sc, ho, pa, [d]⟩, .slice (some ⟨b2, 0, none⟩) 1 1), (⟨false, 4, httpsB, ho, pa, []⟩, .slice none 0 0)] (fun p hp => by
      simp only [List.mem_cons, List.not_mem_nil, or_false] at hp
      rcases hp with rfl | rfl | rfl
      · exact cookies_one R1
      · exact cookies_one R2
      · exact cookies_nil _ _)) e
theorem ssa_fit {sc ho pa : ByteArray} {c d : PCookie} (h4 : fits4 sc ho pa = true) (h6 : fits6 c = true) (h6' : fits6 d = true) (hc : I64 c.maxAge ∧ I64 c.expires) (hd : I64 d.maxAge ∧ I64 d.expires) : ∀ s ∈ ssaSteps sc ho pa c d, StFit s := by
  intro s hs
  unfold ssaSteps at hs
  simp only [List.mem_cons, List.not_mem_nil, or_false] at hs
  rcases hs with rfl | rfl | rfl
  · exact fit_one h4 h6 (by unfold I64; omega) hc.1 hc.2
  · exact fit_one h4 h6' (by unfold I64; omega) hd.1 hd.2
  · exact fit_ask (fits4_web h4).1 (by unfold I64; omega)
/-- How many cookies are sent. -/
theorem RunRel.lens {psl : Option (List ByteArray)} {J : ByteArray → ByteArray → Option Ent} {n : Nat} {ss : List PStep} {o : List (List Ent)} (h : RunRel psl J n ss o) (hJ : JOK J n) (hs : ∀ s ∈ ss, StepOK s ∧ s.cookies.length ≤ 64) : ∀ L ∈ o, L.length ≤ n + ss.length * 64 := by
  induction h with
  | nil J n => intro L hL; cases hL
  | @set J n s r o h0 hr ih =>
    intro L hL
    obtain ⟨g1, g2, g3⟩ := setJ_ok (psl := psl) hJ (hs s List.mem_cons_self).1
    have := ih g1 (fun x hx => hs x (List.mem_cons_of_mem _ hx)) L hL
    have h64 := (hs s List.mem_cons_self).2
    rw [List.length_cons]
    omega
  | @ask J n s r L0 o h0 hL0 hr ih =>
    intro L hL
    rw [List.length_cons]
    rcases List.mem_cons.1 hL with rfl | hL
    · have := hL0.len hJ
      omega
    · have := ih (askJ_ok (psl := psl) hJ) (fun x hx => hs x (List.mem_cons_of_mem _ hx)) L hL
      omega
theorem run_len {psl : Option (List ByteArray)} {ss : List PStep} {o : List (List Ent)} (h : RunRel psl noJar 0 ss o) (hs : ∀ s ∈ ss, StepOK s ∧ s.cookies.length ≤ 64) (hl : ss.length ≤ 64) : ∀ L ∈ o, (L.map pairOf).length ≤ 2147483647 := fun L hL => by
  have := h.lens JOK.new hs L hL
  rw [List.length_map]
  omega
end Go.Proofs.YtcofblepdfjhjaaGreatDoor
