/- Walks: slices.IndexFunc and slices.DeleteFunc over steps, whatever the predicate. Rows of steps that are written. Steps of drawn regions that lay and append rows of steps: what a call leaves of what is known. Walks: the reference's test of two hosts that are apart, and the predicate of FnApart that is made of it. -/
import Derived.Test.YtcofblepdfjhjaaGreatDoorCloneS
import Derived.Test.YtcofblepdfjhjaaGreatDoorLawKit
namespace Go.Proofs.YtcofblepdfjhjaaGreatDoor
open Go.RowKit
/-- Cells written one behind the other. -/
def setArr (cur : Array Value) (o : Nat) : List Value → Array Value
  | [] => cur
  | v :: r => setArr (cur.setIfInBounds o v) (o + 1) r
theorem setArr_size : ∀ (us : List Value) (cur : Array Value) (o : Nat), (setArr cur o us).size = cur.size
  | [], _, _ => rfl
  | v :: r, cur, o => by rw [setArr, setArr_size r]; simp
theorem setArr_out : ∀ (us : List Value) (cur : Array Value) (o j : Nat), (j < o ∨ o + us.length ≤ j) → (setArr cur o us)[j]? = cur[j]?
  | [], _, _, _, _ => rfl
  | v :: r, cur, o, j, h => by
    rw [List.length_cons] at h
    rw [setArr, setArr_out r _ _ _ (by omega), Array.getElem?_setIfInBounds]
    rw [if_neg (by omega)]
theorem setArr_in : ∀ (us : List Value) (cur : Array Value) (o k : Nat), k < us.length → o + us.length ≤ cur.size → (setArr cur o us)[o + k]? = us[k]?
  | [], _, _, _, h, _ => by simp at h
  | v :: r, cur, o, 0, h, hs => by
    rw [List.length_cons] at hs
    rw [setArr, setArr_out r _ _ _ (by omega), Array.getElem?_setIfInBounds, if_pos (by omega), if_pos (by omega)]
    rfl
  | v :: r, cur, o, k + 1, h, hs => by
    rw [List.length_cons] at hs h
    rw [setArr, show o + (k + 1) = o + 1 + k by omega, setArr_in r _ (o + 1) k (by omega) (by simp; omega)]
    rfl
theorem heap_setCell_at {w : World} {g o : Nat} {cur : Array Value} {t : TypeId} {fr : Nat × Nat} (h : w.heap[g]? = some (.cells cur t fr)) (v : Value) : (w.setCell ⟨g, o, none⟩ v).heap[g]? = some (.cells (cur.setIfInBounds o v) t fr) := by
  simp only [World.setCell, Array.getElem?_modify, h]
  rfl
theorem heap_setCells_at {g : Nat} {t : TypeId} {fr : Nat × Nat} : ∀ (us : List Value) (w : World) (o : Nat) (cur : Array Value), w.heap[g]? = some (.cells cur t fr) → (w.setCells g o us).heap[g]? = some (.cells (setArr cur o us) t fr)
  | [], _, _, _, h => h
  | v :: r, w, o, cur, h => by rw [World.setCells, setArr]; exact heap_setCells_at r _ _ _ (heap_setCell_at h v)
/-- Block g holds these steps, with room for cap. -/
structure RowS (w : World) (g cap : Nat) (L : List (PStep × Value)) : Prop where
  ex : ∃ cur : Array Value, w.heap[g]? = some (.cells cur 32 (0, 0)) ∧ cur.size = cap * 6 ∧ ∀ i c p, L[i]? = some p → c < 6 → cur[i * 6 + c]? = (stC p)[c]?
  le : L.length ≤ cap
  mx : cap ≤ maxLen
theorem RowS.lt {w : World} {g cap : Nat} {L : List (PStep × Value)} (h : RowS w g cap L) : g < w.heap.size := by
  obtain ⟨cur, h1, _⟩ := h.ex
  exact (Array.getElem?_eq_some_iff.1 h1).1
theorem RowS.at {w : World} {g cap : Nat} {L : List (PStep × Value)} (h : RowS w g cap L) {i : Nat} {p : PStep × Value} (hp : L[i]? = some p) : RowAt w g (i * 6) (stC p) := by
  obtain ⟨cur, h1, h2, h3⟩ := h.ex
  intro c u hu
  have hc : c < 6 := by have := (List.getElem?_eq_some_iff.1 hu).1; simpa [stC, stCells] using this
  have := h3 i c p hp hc
  unfold World.cell?
  rw [h1]
  simp only [Option.isSome_none, Bool.false_eq_true, if_false]
  rw [this, hu]
theorem RowS.loose {w : World} {g cap : Nat} {L : List (PStep × Value)} (h : RowS w g cap L) : Loose w g := fun i => by
  obtain ⟨cur, h1, _⟩ := h.ex
  unfold World.frozen?
  rw [h1]
  simp
theorem RowS.keep {w w' : World} {g cap : Nat} {L : List (PStep × Value)} (h : RowS w g cap L) (hb : Below w.heap.size w w') : RowS w' g cap L := by
  have hl := h.lt
  obtain ⟨cur, h1, h2, h3⟩ := h.ex
  exact ⟨⟨cur, (hb.block g hl).trans h1, h2, h3⟩, h.le, h.mx⟩
theorem RowS.put {w : World} {g cap : Nat} {L : List (PStep × Value)} (h : RowS w g cap L) {i : Nat} (hi : i < L.length) (p : PStep × Value) : RowS (w.setCells g (i * 6) (stC p)) g cap (L.set i p) := by
  obtain ⟨cur, h1, h2, h3⟩ := h.ex
  have hle := h.le
  have hl6 : (stC p).length = 6 := rfl
  refine ⟨⟨_, heap_setCells_at (stC p) w (i * 6) cur h1, by rw [setArr_size, h2], fun j c q hq hc => ?_⟩, by rw [List.length_set]; exact hle, h.mx⟩
  rw [List.getElem?_set] at hq
  by_cases e : i = j
  · subst e
    rw [if_pos rfl, if_pos hi] at hq
    cases hq
    exact setArr_in (stC p) cur (i * 6) c (by rw [hl6]; exact hc) (by rw [hl6, h2]; omega)
  · rw [if_neg e] at hq
    rw [setArr_out _ _ _ _ (by rw [hl6]; omega)]
    exact h3 j c q hq hc
theorem RowS.cut {w : World} {g cap : Nat} {L : List (PStep × Value)} (h : RowS w g cap L) {i : Nat} (hi : i ≤ L.length) (us : List Value) : RowS (w.setCells g (i * 6) us) g cap (L.take i) := by
  obtain ⟨cur, h1, h2, h3⟩ := h.ex
  have hle := h.le
  refine ⟨⟨_, heap_setCells_at us w (i * 6) cur h1, by rw [setArr_size, h2], fun j c q hq hc => ?_⟩, by rw [List.length_take]; omega, h.mx⟩
  have hj : j < i := by have := (List.getElem?_eq_some_iff.1 hq).1; rw [List.length_take] at this; omega
  rw [List.getElem?_take_of_lt hj] at hq
  rw [setArr_out _ _ _ _ (by omega)]
  exact h3 j c q hq hc
theorem own_keep {w w' : World} {base : Nat} {u : Value} {L : List (PStep × Value)} (h : OwnS w base u L) (g : Below w.heap.size w w') : OwnS w' base u L := h.keep g.size fun k hk => g.block k hk
theorem OwnS.row {w : World} {base g n cap : Nat} {L : List (PStep × Value)} (h : OwnS w base (.slice (some ⟨g, 0, none⟩) n cap) L) : n = L.length ∧ RowS w g cap L ∧ base ≤ g ∧ base ≤ w.heap.size := by
  obtain ⟨⟨hl, ⟨hu, h0⟩ | ⟨g', cap', cur, hu, hb, hh, hle, hmx, hsz, htk⟩⟩, hw⟩ := h
  · cases hu
  · injection hu with e1 e2 e3
    injection e1 with e4
    injection e4 with e5
    subst e2 e3 e5
    refine ⟨rfl, ⟨⟨cur, hh, hsz, fun i c p hp hc => ?_⟩, hle, hmx⟩, hb, hw⟩
    have hi := (List.getElem?_eq_some_iff.1 hp).1
    have h1 := flat6_get stC (fun _ => rfl) L i c p hc hp
    rw [← htk, List.getElem?_take_of_lt (by omega), Array.getElem?_toList] at h1
    exact h1
theorem RowS.own {w : World} {base g cap : Nat} {L : List (PStep × Value)} (h : RowS w g cap L) (hb : base ≤ g) (hw : base ≤ w.heap.size) : OwnS w base (.slice (some ⟨g, 0, none⟩) L.length cap) L := by
  obtain ⟨cur, h1, h2, h3⟩ := h.ex
  have hle := h.le
  have hfl := stC_len L
  refine ⟨⟨hfl, Or.inr ⟨g, cap, cur, rfl, hb, h1, hle, h.mx, h2, ?_⟩⟩, hw⟩
  apply List.ext_getElem?
  intro j
  by_cases hj : j < L.length * 6
  · have hp : L[j / 6]? = some L[j / 6] := List.getElem?_eq_getElem (by omega)
    have a := h3 (j / 6) (j % 6) _ hp (by omega)
    have b := flat6_get stC (fun _ => rfl) L (j / 6) (j % 6) _ (by omega) hp
    rw [show j / 6 * 6 + j % 6 = j by omega] at a b
    rw [List.getElem?_take_of_lt hj, Array.getElem?_toList, a, b]
  · rw [List.getElem?_eq_none (by rw [List.length_take]; omega), List.getElem?_eq_none (by rw [hfl]; omega)]
/-- The first place that is struck. -/
def IdxRes (q : PStep → Bool) (L : List (PStep × Value)) (r : Int) : Prop := (r = -1 ∧ ∀ p ∈ L, q p.1 = false) ∨ ∃ k p, r = (k : Nat) ∧ L[k]? = some p ∧ q p.1 = true ∧ ∀ x ∈ L.take k, q x.1 = false
/-- What a predicate that may lay blocks of its own gives. -/
def PredS (f : Nat) (lb : Array Value) (q : PStep → Bool) (L : List (PStep × Value)) (A : World) : Prop :=
  ∀ (W : World) (p : PStep × Value), p ∈ L → Below A.heap.size A W → Calls Tryz.prog f (#[.agg (stC p).toArray] ++ lb) W fun r w' => r = .returned (.bool (q p.1)) ∧ Below W.heap.size W w'
/-- The second loop: the first m have been looked at, and what is kept of them lies ahead. -/
structure Kept (q : PStep → Bool) (L : List (PStep × Value)) (m k : Nat) (M : List (PStep × Value)) : Prop where
  len : M.length = L.length
  lt : k < m
  low : M.take k = (L.take m).filter fun p => !q p.1
  high : ∀ j, m ≤ j → M[j]? = L[j]?
theorem filter_none {q : PStep → Bool} {L : List (PStep × Value)} (h : ∀ p ∈ L, q p.1 = false) : L.filter (fun p => !q p.1) = L := List.filter_eq_self.2 fun p hp => by rw [h p hp]; rfl
theorem Kept.start {q : PStep → Bool} {L : List (PStep × Value)} {k : Nat} {p : PStep × Value} (hp : L[k]? = some p) (hq : q p.1 = true) (hall : ∀ x ∈ L.take k, q x.1 = false) : Kept q L (k + 1) k L := by
  refine ⟨rfl, Nat.lt_succ_self _, ?_, fun _ _ => rfl⟩
  rw [take_snoc' hp, List.filter_append, filter_none hall]
  simp [hq]
theorem Kept.put {q : PStep → Bool} {L M : List (PStep × Value)} {m k : Nat} {p : PStep × Value} (h : Kept q L m k M) (hp : L[m]? = some p) (hq : q p.1 = false) : Kept q L (m + 1) (k + 1) (M.set k p) := by
  have hm := (List.getElem?_eq_some_iff.1 hp).1
  have hl := h.len
  have hlt := h.lt
  refine ⟨by rw [List.length_set]; exact hl, by omega, ?_, fun j hj => ?_⟩
  · have e : (M.set k p)[k]? = some p := by rw [List.getElem?_set, if_pos rfl, if_pos (by omega)]
    rw [take_snoc' e, take_snoc' hp, List.filter_append, ← h.low, List.take_set_of_le (Nat.le_refl _)]
    simp [hq]
  · rw [List.getElem?_set, if_neg (by omega)]
    exact h.high j (by omega)
theorem Kept.skip {q : PStep → Bool} {L M : List (PStep × Value)} {m k : Nat} {p : PStep × Value} (h : Kept q L m k M) (hp : L[m]? = some p) (hq : q p.1 = true) : Kept q L (m + 1) k M := by
  refine ⟨h.len, by have := h.lt; omega, ?_, fun j hj => h.high j (by omega)⟩
  rw [take_snoc' hp, List.filter_append, ← h.low]
  simp [hq]
theorem Kept.klen {q : PStep → Bool} {L M : List (PStep × Value)} {m k : Nat} (h : Kept q L m k M) (hm : m ≤ L.length) : (M.take k).length = k := by
  have := h.len
  have := h.lt
  rw [List.length_take]
  omega
theorem RowS.has {w : World} {g cap : Nat} {L : List (PStep × Value)} (h : RowS w g cap L) {j : Nat} (hj : j < cap * 6) : (w.cell? ⟨g, j, none⟩).isSome = true := by
  obtain ⟨cur, h1, h2, h3⟩ := h.ex
  unfold World.cell?
  rw [h1]
  simp only [Option.isSome_none, Bool.false_eq_true, if_false]
  rw [Array.getElem?_eq_getElem (by omega)]
  rfl
theorem zero_step (w : World) : (zeroValue 32).run Tryz.prog w = .ok (.agg #[.bool false, .int .i64 0, .string ⟨#[]⟩, .string ⟨#[]⟩, .string ⟨#[]⟩, .slice none 0 0]) w := by kernel_rfl
/-- 'clear' on steps. -/
theorem clear_steps (w : World) (ty : TypeId) (g o n c cap : Nat) (L : List (PStep × Value)) (h : RowS w g cap L) (hn : 0 < n) (hb : o + n * 6 ≤ cap * 6) :
    ∃ us, (Builtin.clear_ #[23] ty #[.slice (some ⟨g, o, none⟩) n c]).run Tryz.prog w = .ok (.tuple #[]) (w.setCells g o us) := by
  let z : Array Value := #[.bool false, .int .i64 0, .string ⟨#[]⟩, .string ⟨#[]⟩, .string ⟨#[]⟩, .slice none 0 0]
  have hzs : z.size = 6 := rfl
  have hlen : (Builtin.zeroCells z n).toList.length = n * 6 := by simp [Builtin.zeroCells, hzs]
  have hst := run_storeCells_cells (P := Tryz.prog) g o (Builtin.zeroCells z n).toList 0 w
    (fun j hj => by rw [hlen] at hj; exact h.has (by omega)) (fun j hj => h.loose _) (fun v hv => by
      simp only [Builtin.zeroCells, Array.toList_map, List.mem_map] at hv
      obtain ⟨i, _, rfl⟩ := hv
      have h6 : i % 6 < 6 := Nat.mod_lt _ (by omega)
      rw [hzs]
      generalize i % 6 = k at h6
      match k, h6 with
      | 0, _ => rfl
      | 1, _ => rfl
      | 2, _ => rfl
      | 3, _ => rfl
      | 4, _ => rfl
      | 5, _ => rfl)
  simp only [Nat.add_zero] at hst
  refine ⟨(Builtin.zeroCells z n).toList, ?_⟩
  obtain ⟨m, rfl⟩ : ∃ m, n = m + 1 := ⟨n - 1, by omega⟩
  have hz := zero_step w
  simp [Builtin.clear_, run_underlying Tryz.underlying23, hz, Value.cells]
  rw [show Sem.run Tryz.prog (storeCells ⟨g, o, none⟩ (Builtin.zeroCells #[.bool false, .int .i64 0, .string ⟨#[]⟩, .string ⟨#[]⟩, .string ⟨#[]⟩, .slice none 0 0] (m + 1)).toList) w = _ from hst]
  rfl
set_option maxRecDepth 100000 in
set_option maxHeartbeats 3200000 in
theorem idxStep_any (A : World) (q : PStep → Bool) (f : Nat) (lb : Array Value) (eg : ∀ args w, (callFunc f args).run Tryz.prog w = .ok (.enter f args) w) (g cap : Nat) (L : List (PStep × Value)) (w : World) (hA : Below A.heap.size A w) (hR : RowS w g cap L) (hl : L.length ≤ 2147483647) (hp : PredS f lb q L A) :
    Calls Tryz.prog 24 #[.slice (some ⟨g, 0, none⟩) L.length cap, .func (.func f) #[] lb] w fun r w' => (∃ i, r = .returned (.int .i64 i) ∧ IdxRes q L i) ∧ Below w.heap.size w w' := by
  have HP := Lib.hid hp
  have HR := Lib.hid hR
  clear hp hR
  go_enter Tryz.func24, Tryz.ntmps24
  go_wp2
  go_loopw [5, 8] (fun _ i wr => ∃ k : Nat, k ≤ L.length ∧ i = .int .i64 k ∧ Below w.heap.size w wr ∧ Hid (∀ x ∈ L.take k, q x.1 = false)) (fun _ i _ => L.length - (intOf i).toNat)
  case atStart => exact ⟨0, Nat.zero_le _, rfl, Below.refl _ _, fun x hx => by simp at hx⟩
  case round =>
    obtain ⟨k, hk, rfl, hb, hrel⟩ := hrel
    by_cases hlt : k < L.length
    · have hp : L[k]? = some L[k] := List.getElem?_eq_getElem hlt
      have hm : L[k] ∈ L := List.getElem_mem _
      generalize L[k] = p at hp hm
      have hrow := (HR.out.keep hb).at hp
      have hcall := HP.out wr p hm (hA.trans (hb.mono hA.size))
      have HPK := Lib.hid hp
      clear hp hm
      obtain ⟨s, u⟩ := p
      unfold stC stCells at hrow hcall
      simp only [] at hrow hcall
      obtain ⟨x0, x1, x2, x3, x4, x5⟩ := row6 hrow
      clear hrow
      cases hq : q s
      · have HQ := Lib.hid hq
        rw [hq] at hcall
        clear hq
        go_wp2_with (go_at_fn f; refine hcall.mono ?_; rintro e w' ⟨rfl, hb'⟩)
        go_round
        case measure => simp [intOf]; omega
        case rel =>
          refine ⟨k + 1, by omega, by go_num, hb.trans (hb'.mono hb.size), fun x hx => ?_⟩
          rw [take_snoc' HPK.out, List.mem_append, List.mem_singleton] at hx
          rcases hx with hx | rfl
          · exact hrel.out x hx
          · exact HQ.out
      · have HQ := Lib.hid hq
        rw [hq] at hcall
        clear hq
        go_wp2_with (go_at_fn f; refine hcall.mono ?_; rintro e w' ⟨rfl, hb'⟩)
        go_ret
        exact ⟨⟨_, rfl, Or.inr ⟨k, _, rfl, HPK.out, HQ.out, hrel.out⟩⟩, hb.trans (hb'.mono hb.size)⟩
    · have hk' : k = L.length := by omega
      subst hk'
      go_wp2
      go_ret
      have hr := hrel.out
      rw [List.take_length] at hr
      exact ⟨⟨_, rfl, Or.inl ⟨rfl, hr⟩⟩, hb⟩
set_option maxRecDepth 100000 in
set_option maxHeartbeats 3200000 in
theorem delStep_raw (A : World) (q : PStep → Bool) (f : Nat) (lb : Array Value) (eg : ∀ args w, (callFunc f args).run Tryz.prog w = .ok (.enter f args) w) (g cap : Nat) (L : List (PStep × Value)) (w : World) (hA : Below A.heap.size A w) (hg : A.heap.size ≤ g) (hR : RowS w g cap L) (hl : L.length ≤ 2147483647) (hp : PredS f lb q L A) (hv : ∀ p ∈ L, ∃ a n c, p.2 = .slice a n c) :
    Calls Tryz.prog 10 #[.slice (some ⟨g, 0, none⟩) L.length cap, .func (.func f) #[] lb] w fun r w' => r = .returned (.slice (some ⟨g, 0, none⟩) (L.filter fun p => !q p.1).length cap) ∧ RowS w' g cap (L.filter fun p => !q p.1) ∧ Below A.heap.size A w' := by
  have HIDX := idxStep_any A q f lb eg g cap L w hA hR hl hp
  have HP := Lib.hid hp
  have HR := Lib.hid hR
  have hle := hR.le
  clear hp hR
  go_enter Tryz.func10, Tryz.ntmps10
  go_wp2_with fail
  refine HIDX.mono ?_
  rintro r w1 ⟨⟨i, rfl, hres⟩, hb1⟩
  have hR1 := HR.out.keep hb1
  have hA1 := hA.trans (hb1.mono hA.size)
  clear HIDX HR hA hb1
  rcases hres with ⟨rfl, hall⟩ | ⟨k, p, rfl, hp, hq, hall⟩
  · have HALL := Lib.hid hall
    have HR1 := Lib.hid hR1
    clear hall hR1
    go_wp2
    go_ret
    rw [filter_none HALL.out]
    exact ⟨rfl, HR1.out, hA1⟩
  · have hk := (List.getElem?_eq_some_iff.1 hp).1
    have hkept := Lib.hid (Kept.start hp hq hall)
    have HR1 := Lib.hid hR1
    have hne1 : ((k : Int) == -1) = false := beq_eq_false_iff_ne.2 (by omega)
    have HV := Lib.hid hv
    clear hp hq hall hR1 hv
    go_wp2
    go_loopw [5, 6, 7] (fun s5 s6 _ wr => ∃ (i j : Nat) (M : List (PStep × Value)), s5 = .int .i64 i ∧ s6 = .int .i64 j ∧ j ≤ L.length ∧ Below A.heap.size A wr ∧ Hid (RowS wr g cap M) ∧ Hid (Kept q L j i M)) (fun _ s6 _ _ => L.length - (intOf s6).toNat)
    case atStart => exact ⟨k, k + 1, L, rfl, by go_num, by omega, hA1, HR1.out, hkept.out⟩
    case round =>
      obtain ⟨i, j, M, rfl, rfl, hj, hAr, hrow, hkp⟩ := hrel
      clear HR1 hkept hA1 hne1 hk
      have hij := hkp.out.lt
      have hml := hkp.out.len
      by_cases hlt : j < L.length
      · have hp : L[j]? = some L[j] := List.getElem?_eq_getElem hlt
        have hm : L[j] ∈ L := List.getElem_mem _
        have hMi : M[i]? = some M[i] := List.getElem?_eq_getElem (by omega)
        generalize L[j] = p at hp hm
        generalize M[i] = old at hMi
        have hMj : M[j]? = some p := by rw [hkp.out.high j (Nat.le_refl _)]; exact hp
        have hat := hrow.out.at hMj
        obtain ⟨s, u⟩ := p
        obtain ⟨ua, un, uc, hu⟩ := HV.out _ hm
        simp only [] at hu
        subst hu
        obtain ⟨W1, hW1⟩ : ∃ W1, wr.alloc (.cells (stCells s (.slice ua un uc)).toArray 32) = W1 := ⟨_, rfl⟩
        have hb1 : Below wr.heap.size wr W1 := by rw [← hW1]; exact (Below.refl _ _).alloc (Nat.le_refl _) _
        have hv1 : RowAt W1 wr.heap.size 0 (stCells s (.slice ua un uc)) := by rw [← hW1]; exact RowAt.new wr (stCells s (.slice ua un uc)) 32
        have hsz1 : W1.heap.size = wr.heap.size + 1 := by rw [← hW1]; simp
        have hA2 := hAr.trans (hb1.mono hAr.size)
        have hrow1 := hrow.out.keep hb1
        have hcall := HP.out W1 _ hm hA2
        have HPJ := Lib.hid hp
        have HMI := Lib.hid hMi
        unfold stC stCells at hat hcall
        unfold stCells at hv1 hW1
        simp only [] at hat hcall hW1
        obtain ⟨x0, x1, x2, x3, x4, x5⟩ := row6 hat
        obtain ⟨y0, y1, y2, y3, y4, y5⟩ := row6 hv1
        simp only [Nat.zero_add] at y1 y2 y3 y4 y5
        have hlt1 : wr.heap.size < W1.heap.size := by omega
        clear hp hMi hMj hm hat
        go_upto_region 8 with (fail)
        try rw [hW1]
        clear hW1 x0 x1 x2 x3 x4 x5 hb1 hsz1 hrow
        cases hq : q s
        · have HQ := Lib.hid hq
          rw [hq] at hcall
          clear hq
          have hil : i < L.length := by omega
          go_wp2_with (go_at_fn f; refine hcall.mono ?_; rintro e w2 ⟨rfl, hb2⟩; clear y0 y1 y2 y3 y4 y5; have hrow2 := Lib.hid (hrow1.keep hb2); have hat2 := hrow2.out.at HMI.out; unfold stC stCells at hat2; obtain ⟨o0, o1, o2, o3, o4, o5⟩ := row6 hat2; clear hat2; obtain ⟨y0, y1, y2, y3, y4, y5⟩ := row6 (hv1.below hb2 hlt1); simp only [Nat.zero_add] at y1 y2 y3 y4 y5; have f0 := hrow2.out.loose (i * 6); have f1 := hrow2.out.loose (i * 6 + 1); have f2 := hrow2.out.loose (i * 6 + 2); have f3 := hrow2.out.loose (i * 6 + 3); have f4 := hrow2.out.loose (i * 6 + 4); have f5 := hrow2.out.loose (i * 6 + 5))
          go_roundw
          case rel => exact ⟨i + 1, j + 1, _, by go_num, by go_num, by omega, Below.setCells g hg (stC (s, .slice ua un uc)) (i * 6) _ (hA2.trans (hb2.mono hA2.size)), hrow2.out.put (by omega) (s, .slice ua un uc), hkp.out.put HPJ.out HQ.out⟩
          case measure => simp [intOf]; omega
        · have HQ := Lib.hid hq
          rw [hq] at hcall
          clear hq
          go_wp2_with (go_at_fn f; refine hcall.mono ?_; rintro e w2 ⟨rfl, hb2⟩)
          go_roundw
          case rel => exact ⟨i, j + 1, M, rfl, by go_num, by omega, hA2.trans (hb2.mono hA2.size), hrow1.keep hb2, hkp.out.skip HPJ.out HQ.out⟩
          case measure => simp [intOf]; omega
      · have hj' : j = L.length := by omega
        subst hj'
        have hi6 : i * 6 + (L.length - i) * 6 ≤ cap * 6 := by omega
        obtain ⟨us, hcl⟩ := clear_steps wr 0 g (i * 6) (L.length - i) (cap - i) cap M hrow.out (by omega) hi6
        have hml2 : (L.filter fun p => !q p.1).length = i := by
          have h1 := hkp.out.klen (Nat.le_refl _)
          rw [hkp.out.low, List.take_length] at h1
          exact h1
        have hlow : M.take i = L.filter fun p => !q p.1 := by
          have h1 := hkp.out.low
          rw [List.take_length] at h1
          exact h1
        have HML := Lib.hid hml2
        have HLOW := Lib.hid hlow
        have hcut := hrow.out.cut (i := i) (by omega) us
        have HCUT := Lib.hid hcut
        have hil : i < L.length := by omega
        clear hlow hml2 hcut
        go_wp2
        go_ret
        rw [HML.out, ← HLOW.out]
        exact ⟨rfl, HCUT.out, Below.setCells g hg us (i * 6) _ hAr⟩
set_option maxRecDepth 100000 in
set_option maxHeartbeats 1600000 in
theorem idxStep_nil (f : Nat) (lb : Array Value) (w : World) : Calls Tryz.prog 24 #[.slice none 0 0, .func (.func f) #[] lb] w fun r w' => r = .returned (.int .i64 (-1)) ∧ Below w.heap.size w w' := by
  go_enter Tryz.func24, Tryz.ntmps24
  go_wp2
  go_loopw [5, 8] (fun _ i wr => i = .int .i64 0 ∧ Below w.heap.size w wr) (fun _ _ _ => 0)
  case atStart => exact ⟨rfl, Below.refl _ _⟩
  case round =>
    obtain ⟨rfl, hb⟩ := hrel
    go_wp2
    go_ret
    exact ⟨rfl, hb⟩
set_option maxRecDepth 100000 in
set_option maxHeartbeats 1600000 in
theorem delStep_nil (f : Nat) (lb : Array Value) (w : World) : Calls Tryz.prog 10 #[.slice none 0 0, .func (.func f) #[] lb] w fun r w' => r = .returned (.slice none 0 0) ∧ Below w.heap.size w w' := by
  have HIDX := idxStep_nil f lb w
  go_enter Tryz.func10, Tryz.ntmps10
  go_wp2_with fail
  refine HIDX.mono ?_
  rintro r w1 ⟨rfl, hb1⟩
  go_wp2
  go_ret
  exact ⟨rfl, hb1⟩
/-- slices.DeleteFunc over steps in a row of their own. -/
theorem delStep_own (A : World) (q : PStep → Bool) (f : Nat) (lb : Array Value) (eg : ∀ args w, (callFunc f args).run Tryz.prog w = .ok (.enter f args) w) (w : World) (u : Value) (L : List (PStep × Value)) (hA : Below A.heap.size A w) (hown : OwnS w A.heap.size u L) (hl : L.length ≤ 2147483647) (hp : PredS f lb q L A)
    (hck : ∀ p ∈ L, CookiesAt A A.heap.size p.2 p.1.cookies) :
    Calls Tryz.prog 10 #[u, .func (.func f) #[] lb] w fun r w' => ∃ v, r = .returned v ∧ OwnS w' A.heap.size v (L.filter fun p => !q p.1) ∧ Below A.heap.size A w' := by
  have ho := hown
  obtain ⟨⟨hfl, ⟨rfl, h0⟩ | ⟨g, cap, cur, rfl, hb, hh, hle, hmx, hsz, htk⟩⟩, hw⟩ := hown
  · have hL : L = [] := List.length_eq_zero_iff.1 h0
    subst hL
    refine (delStep_nil f lb w).mono ?_
    rintro r w1 ⟨rfl, hb1⟩
    exact ⟨_, rfl, own_keep ho hb1, hA.trans (hb1.mono hA.size)⟩
  · obtain ⟨_, hrow, hg, _⟩ := ho.row
    refine (delStep_raw A q f lb eg g cap L w hA hg hrow hl hp fun p hpm => ?_).mono ?_
    · obtain ⟨ao, b, off, c, h1, _⟩ := (hck p hpm).ex
      exact ⟨ao, _, c, h1⟩
    · rintro r w1 ⟨rfl, hr, hb1⟩
      exact ⟨_, rfl, hr.own hg hb1.size, hb1⟩
end Go.Proofs.YtcofblepdfjhjaaGreatDoor
namespace Go.Proofs.YtcofblepdfjhjaaGreatDoor
open Go.RowKit
/-- W is w, perhaps with draws, perhaps with one block laid. -/
structure Same (w W : World) : Prop where
  os : W.os = w.os
  tape : W.tape = w.tape
  output : W.output = w.output
  heap : W.heap = w.heap ∨ ∃ o, W.heap = (w.alloc o).heap
theorem Same.below {w W : World} (h : Same w W) : Below w.heap.size w W := by
  rcases h.heap with e | ⟨o, e⟩
  · exact ⟨h.os, h.tape, h.output, by rw [e]; exact Nat.le_refl _, fun k _ => by rw [e]⟩
  · exact ⟨h.os, h.tape, h.output, by rw [e]; simp, fun k hk => by rw [e]; exact Below.heap_alloc w o k hk⟩
theorem Same.refl (w : World) : Same w w := ⟨rfl, rfl, rfl, Or.inl rfl⟩
/-- From one known world to the next, over a call. -/
theorem below_on {A w W w' : World} (_ : Below A.heap.size A w) (e : Same w W) (hb : Below W.heap.size W w') : Below w.heap.size w w' := e.below.trans (hb.mono e.below.size)
theorem bel_on {A w w' : World} (h : Below A.heap.size A w) (g : Below w.heap.size w w') : Below A.heap.size A w' := h.trans (g.mono h.size)
theorem own_on {w w' : World} {base : Nat} {u : Value} {L : List (PStep × Value)} (h : OwnS w base u L) (g : Below w.heap.size w w') : OwnS w' base u L := h.keep g.size fun k hk => g.block k hk
theorem steps_on {w w' : World} {u : Value} {ss : List PStep} (h : StepsAt w w.heap.size u ss) (g : Below w.heap.size w w') : StepsAt w' w'.heap.size u ss := (h.below g (Nat.le_refl _)).up g.size
theorem row_on {w w' : World} {b : Nat} {us : List Value} (h : RowAt w b 0 us ∧ b < w.heap.size) (g : Below w.heap.size w w') : RowAt w' b 0 us ∧ b < w'.heap.size := ⟨h.1.below g h.2, Nat.lt_of_lt_of_le h.2 g.size⟩
/-- The block that was laid just ahead of a call. -/
theorem laid_on {w W w' : World} {us : List Value} {T : TypeId} (e : W.heap = (w.alloc (.cells us.toArray T)).heap) (hb : Below W.heap.size W w') : RowAt w' w.heap.size 0 us ∧ w.heap.size < w'.heap.size :=
  lay_step hb e
theorem row_now {w W : World} {b : Nat} {us : List Value} (h : RowAt w b 0 us ∧ b < w.heap.size) (e : Same w W) : RowAt W b 0 us ∧ b < W.heap.size := row_on h e.below
theorem laid_now {w W : World} {us : List Value} {T : TypeId} (e : W.heap = (w.alloc (.cells us.toArray T)).heap) : RowAt W w.heap.size 0 us ∧ w.heap.size < W.heap.size := ⟨lay_new e, by rw [e]; simp⟩
theorem below_now {A w W : World} (h : Below A.heap.size A w) (e : Same w W) : Below A.heap.size A W := h.trans (e.below.mono h.size)
theorem clone_bel {ss : List PStep} {w w' : World} {r : Ending} (h : ClonePost ss w r w') : Below w.heap.size w w' := by
  obtain ⟨u, L, h1, h2, h3, h4, h5⟩ := h
  exact h5
/-- A clone, the world ahead of it a letter. -/
theorem clone_on {A w W w' : World} {ss : List PStep} {r : Ending} (BB : Below A.heap.size A w) (e : Same w W) (h : ClonePost ss W r w') :
    ∃ (X : World) (u : Value) (L : List (PStep × Value)), r = .returned u ∧ L.map (·.1) = ss ∧ OwnS w' X.heap.size u L ∧ (∀ p ∈ L, CookiesAt X X.heap.size p.2 p.1.cookies) ∧ Below X.heap.size X w' ∧ A.heap.size ≤ X.heap.size := by
  obtain ⟨u, L, h1, h2, h3, h4, h5⟩ := clone_own h
  exact ⟨W, u, L, h1, h2, h3, h4, h5, (below_now BB e).size⟩
/-- A list of pairs behind an append to a row of its own. -/
theorem pairs_grown {w w' : World} {Q : Nat → Prop} {v : Value} {ps : List (ByteArray × ByteArray)} {r : Option Nat} (h : PairsAt w Q v ps) (g : w.grownBy w' r) (hr : ∀ b, Q b → some b ≠ r) : PairsAt w' Q v ps := by
  obtain ⟨ao, b, off, cap, h1, h2, h3⟩ := h
  refine ⟨ao, b, off, cap, h1, fun hl => ⟨(h2 hl).1, Nat.lt_of_lt_of_le (h2 hl).2.1 g.size, (h2 hl).2.2⟩, fun j p hj => ?_⟩
  have hlt := h2 (by have := (List.getElem?_eq_some_iff.1 hj).1; omega)
  obtain ⟨g1, g2⟩ := h3 j p hj
  exact ⟨(g.cell_far ⟨b, off + j * 2, none⟩ hlt.2.1 (hr b hlt.2.2)).trans g1, (g.cell_far ⟨b, off + j * 2 + 1, none⟩ hlt.2.1 (hr b hlt.2.2)).trans g2⟩
theorem pairs_end (p : List (List Ent)) (L : List Ent) : (pairsOf (p ++ [L])).getLastD [] = L.map pairOf := by simp [pairsOf]
theorem last_len {o : List (List Ent)} (h : ∀ L ∈ o, (L.map pairOf).length ≤ 2147483647) : ((pairsOf o).getLastD []).length ≤ 2147483647 := by
  rcases List.eq_nil_or_concat o with rfl | ⟨p, L, rfl⟩
  · simp [pairsOf]
  · rw [List.concat_eq_append, pairs_end]
    exact h L (by simp)
/-- Pairs that lie apart from a row of steps. -/
theorem pairs_apart {w W w' : World} {v u : Value} {base : Nat} {L : List (PStep × Value)} {ps : List (ByteArray × ByteArray)} (h : PairsAt w' (fun b => W.heap.size ≤ b) v ps) (hown : OwnS w base u L) (e : Same w W) : PairsAt w' (fun b => some b ≠ u.ownBlock) v ps :=
  h.to fun b _ hb hu => by
    have := (hown.lt hu.symm).2
    have := e.below.size
    omega
theorem pairs_app {w W w3 : World} {v u : Value} {ps : List (ByteArray × ByteArray)} (h : PairsAt w (fun b => some b ≠ u.ownBlock) v ps) (e : Same w W) (g : W.grownBy w3 u.ownBlock) : PairsAt w3 (fun b => some b ≠ u.ownBlock) v ps :=
  pairs_grown (h.below e.below) g fun _ h => h
/-- slices.Equal at two lists that are the same. -/
theorem eqPair_eq {A w W : World} {Q Q' : Nat → Prop} {u u' : Value} {ps qs : List (ByteArray × ByteArray)} (_ : Below A.heap.size A w) (e : Same w W) (h : PairsAt w Q u ps) (h' : PairsAt w Q' u' qs) (hl : ps.length ≤ 2147483647) (he : ps = qs) :
    Calls Tryz.prog 29 #[u, u'] W fun r w' => r = .returned (.bool true) ∧ Below W.heap.size W w' := by
  refine (eqPair_any (h.below e.below) (h'.below e.below) hl).mono ?_
  rintro r w1 ⟨rfl, hb⟩
  rw [decide_eq_true he]
  exact ⟨rfl, hb⟩
/-- What an append to a list of steps of its own leaves. -/
structure AppPost (A W w3 : World) (u v3 : Value) (ss : List PStep) : Prop where
  st : StepsAt w3 w3.heap.size v3 ss
  bel : Below A.heap.size A w3
  grown : W.grownBy w3 u.ownBlock
/-- 'append' of a laid block of steps to a list of its own, at a step of a drawn region. X: the world ahead of which all that the list's cookies lie in stood. -/
theorem step_app {ops : Array Oper} {o : Oper} {a : Act} {K : Act → World → Prop} {Q : Exit → Act → World → Prop} {E : Prop} (s x : Operand)
    (ho : o.op = .call { callee := .builtin .append, args := #[s, x], argTypes := #[23, 23] }) (hw : Region.wanted o (yielded ops a.tmps) = true)
    {A X w W : World} {u : Value} {L M : List (PStep × Value)} {ss : List PStep} {b1 c : Nat} (hs : a.eval s = u) (hx : a.eval x = .slice (some ⟨b1, 0, none⟩) M.length c)
    (e : Same w W) (hown : OwnS w X.heap.size u L) (hL : L.map (·.1) = ss) (hn : L.length ≤ 2147483647) (hm0 : 0 < M.length) (hm : M.length ≤ 2) (BC : Below X.heap.size X w) (BB : Below A.heap.size A w) (hAX : A.heap.size ≤ X.heap.size)
    (hck : ∀ p ∈ L, CookiesAt X X.heap.size p.2 p.1.cookies) (hM1 : ∀ v ∈ M.flatMap stC, v.oneCell' = true) (hrow : RowAt W b1 0 (M.flatMap stC)) (hMck : ∀ w3, W.grownBy w3 u.ownBlock → ∀ p ∈ M, CookiesAt w3 w3.heap.size p.2 p.1.cookies)
    (h : ∀ g cap w3, AppPost A W w3 u (.slice (some ⟨g, 0, none⟩) (L.length + M.length) cap) (ss ++ M.map (·.1)) → K (a.put o.dst (.slice (some ⟨g, 0, none⟩) (L.length + M.length) cap)) w3) :
    if Region.wanted o (yielded ops a.tmps) = true then Oper.wp Tryz.prog o a W K Q else E := by
  rw [if_pos hw]
  obtain ⟨i0, hi, hz0, hz1, hz2⟩ := info_parts Tryz.infoStep
  have hown1 := own_on hown e.below
  have hX := BC.trans (e.below.mono BC.size)
  refine wp_append_lies W s x 23 ho X.heap.size 32 i0 _ 6 88 Tryz.underlying23 hi hz0 hz1 hz2 (by rfl) (by decide) u L.length (L.flatMap stC) hs hown1.1 ⟨b1, 0, none⟩ M.length c (M.flatMap stC) hx (stC_len M) (row_news hrow) hM1 hm0
    (by unfold maxLen; omega) (by omega) hown1.2 _ rfl ?_
  intro g cap w3 hown3 hgrow _ _
  have HX := app_end (A := A) hL hown1 hown3 hgrow hX (BB.trans (e.below.mono BB.size)) hAX hck (hMck w3 hgrow)
  exact h g cap w3 ⟨HX.1, HX.2, hgrow⟩
end Go.Proofs.YtcofblepdfjhjaaGreatDoor
