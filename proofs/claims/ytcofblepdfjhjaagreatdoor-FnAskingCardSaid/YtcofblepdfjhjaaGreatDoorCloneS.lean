/- Walks: slices.Clone over steps; lists of steps as rows of their own. -/
import Derived.Test.YtcofblepdfjhjaaGreatDoorW28
import Derived.Lib.SliceRun
namespace Go.Proofs.YtcofblepdfjhjaaGreatDoor
open Go.RowKit
theorem Tryz.infoStep : (Tryz.prog.info? 32).map (fun i => (i.zero, i.size, i.bytes)) = some (some (.agg #[.bool false, .int .i64 0, .string ⟨#[]⟩, .string ⟨#[]⟩, .string ⟨#[]⟩, .slice none 0 0]), 6, 88) := by kernel_rfl
def stC (p : PStep × Value) : List Value := stCells p.1 p.2
theorem stC_len (L : List (PStep × Value)) : (L.flatMap stC).length = L.length * 6 := by
  induction L with
  | nil => rfl
  | cons x r ih => rw [List.flatMap_cons, List.length_append, ih, List.length_cons]; simp [stC, stCells]; omega
/-- The slice of a step is one value. -/
def CellOK (p : PStep × Value) : Prop := p.2.oneCell' = true
theorem stC_one {L : List (PStep × Value)} (h : ∀ p ∈ L, CellOK p) : ∀ u ∈ L.flatMap stC, u.oneCell' = true := by
  intro u hu
  obtain ⟨p, hp, hu⟩ := List.mem_flatMap.1 hu
  simp only [stC, stCells, List.mem_cons, List.not_mem_nil, or_false] at hu
  rcases hu with rfl | rfl | rfl | rfl | rfl | rfl <;> first | rfl | exact h p hp
theorem flat6_inv : ∀ (L : List (PStep × Value)) (j : Nat) (u : Value), (L.flatMap stC)[j]? = some u → ∃ i c p, j = i * 6 + c ∧ L[i]? = some p ∧ (stC p)[c]? = some u
  | [], j, u, h => by simp at h
  | x :: r, j, u, h => by
    rw [List.flatMap_cons] at h
    have hl : (stC x).length = 6 := rfl
    by_cases hj : j < 6
    · rw [List.getElem?_append_left (by omega)] at h
      exact ⟨0, j, x, by omega, rfl, h⟩
    · rw [List.getElem?_append_right (by omega), hl] at h
      obtain ⟨i, c, p, e, h1, h2⟩ := flat6_inv r (j - 6) u h
      exact ⟨i + 1, c, p, by omega, by simpa using h1, h2⟩
theorem cookies_val {w : World} {B : Nat} {v : Value} {cs : List PCookie} (h : CookiesAt w B v cs) : v.oneCell' = true := by
  obtain ⟨ao, b, off, cap, rfl, _⟩ := h.ex
  rfl
theorem steps_of_own {w : World} {base : Nat} {v : Value} {L : List (PStep × Value)} (hown : w.ownsRow base 32 6 v L.length (L.flatMap stC)) (hc : ∀ p ∈ L, CookiesAt w w.heap.size p.2 p.1.cookies) : StepsAt w w.heap.size v (L.map (·.1)) := by
  have hcell := fun g hg => hown.cells (g := g) hg
  have hcs : ∀ (j : Nat) (s : PStep), (L.map (·.1))[j]? = some s → CookiesAt w w.heap.size (((L[j]?).map (·.2)).getD (.slice none 0 0)) s.cookies := fun j s hs => by
    rw [List.getElem?_map] at hs
    cases hp : L[j]? with
    | none => rw [hp] at hs; cases hs
    | some p =>
      rw [hp] at hs
      obtain rfl : p.1 = s := Option.some.inj hs
      exact hc p (List.mem_of_getElem? hp)
  obtain ⟨hl, ⟨rfl, h0⟩ | ⟨g, cap, cur, rfl, hb, hh, _⟩⟩ := hown
  · have : L = [] := List.length_eq_zero_iff.1 h0
    subst this
    exact ⟨fun _ => .slice none 0 0, ⟨none, 0, 0, 0, rfl, fun h => by simp at h, fun j hj => by simp at hj⟩, fun j s hs => by simp at hs⟩
  · refine ⟨fun j => ((L[j]?).map (·.2)).getD (.slice none 0 0), ⟨_, g, 0, cap, by rw [List.length_map], fun _ => ⟨rfl, (Array.getElem?_eq_some_iff.1 hh).1⟩, fun j hj => ?_⟩, hcs⟩
    rw [List.length_map] at hj
    have hp : L[j]? = some L[j] := List.getElem?_eq_getElem hj
    generalize L[j] = p at hp
    have hcv : (((L[j]?).map (·.2)).getD (.slice none 0 0) : Value) = p.2 := by rw [hp]; rfl
    have hss : (L.map (·.1))[j]? = some p.1 := by rw [List.getElem?_map, hp]; rfl
    rw [hss]
    show RowAt w g (0 + j * 6) (stCells p.1 (((L[j]?).map (·.2)).getD (.slice none 0 0)))
    rw [hcv]
    intro c u hu
    have hc6 : c < 6 := by have := (List.getElem?_eq_some_iff.1 hu).1; simpa [stCells] using this
    have := flat6_get stC (fun _ => rfl) L j c p hc6 hp
    rw [show (stC p)[c]? = some u from hu] at this
    have h4 := hcell g rfl _ _ this
    rw [addr_add] at h4
    rw [Nat.zero_add] at h4 ⊢
    exact h4
/-- A slice that is nil, or no longer than its room. -/
def SliceOK (v : Value) : Prop := v = .slice none 0 0 ∨ ∃ a n cap, v = .slice (some a) n cap ∧ n ≤ cap
theorem clone_src {w : World} {B : Nat} {a : Addr} {n cap : Nat} {ss : List PStep} (h : StepsAt w B (.slice (some a) n cap) ss) :
    n = ss.length ∧ ∃ L : List (PStep × Value), L.map (·.1) = ss ∧ (∀ j u, (L.flatMap stC)[j]? = some u → w.cell? (a.add j) = some u) ∧ ∀ p ∈ L, CookiesAt w B p.2 p.1.cookies := by
  obtain ⟨cv, hs, h2⟩ := h.ex
  obtain ⟨ao, b, off, cap1, hv, ha, hc⟩ := hs.ex
  injection hv with e1 e2 e3
  refine ⟨e2, ss.zipIdx.map (fun q => (q.1, cv q.2)), ?_, fun j u hj => ?_, fun p hp => ?_⟩
  · rw [List.map_map]
    have : ((fun x : PStep × Value => x.1) ∘ fun q : PStep × Nat => (q.1, cv q.2)) = Prod.fst := rfl
    rw [this, List.zipIdx_map_fst]
  · obtain ⟨i, c, p, rfl, hp, hu⟩ := flat6_inv _ _ _ hj
    rw [List.getElem?_map, List.getElem?_zipIdx] at hp
    cases hi : ss[i]? with
    | none => rw [hi] at hp; cases hp
    | some s =>
      rw [hi] at hp
      obtain rfl : (s, cv (0 + i)) = p := Option.some.inj hp
      have hil := (List.getElem?_eq_some_iff.1 hi).1
      obtain ⟨e4, _⟩ := ha (by omega)
      rw [e4] at e1
      obtain rfl : a = ⟨b, off, none⟩ := Option.some.inj e1
      have := hc i hil
      rw [hi] at this
      have h5 := this c u (by rw [Nat.zero_add] at hu; exact hu)
      rw [Go.WideShapes.add_plain, ← Nat.add_assoc]
      exact h5
  · obtain ⟨q, hq, rfl⟩ := List.mem_map.1 hp
    obtain ⟨i, hi⟩ := List.getElem?_of_mem hq
    rw [List.getElem?_zipIdx] at hi
    cases hs' : ss[i]? with
    | none => rw [hs'] at hi; cases hi
    | some s =>
      rw [hs'] at hi
      obtain rfl : (s, 0 + i) = q := Option.some.inj hi
      have := h2 i s hs'
      rw [Nat.zero_add]
      exact this
def ClonePost (ss : List PStep) (w : World) (r : Ending) (w' : World) : Prop :=
  ∃ (u : Value) (L : List (PStep × Value)), r = .returned u ∧ L.map (·.1) = ss ∧ w'.ownsRow w.heap.size 32 6 u ss.length (L.flatMap stC) ∧ (∀ p ∈ L, CookiesAt w w.heap.size p.2 p.1.cookies) ∧ Below w.heap.size w w'
set_option maxRecDepth 100000 in
set_option maxHeartbeats 3200000 in
theorem cloneStep_any (v : Value) (ss : List PStep) (w : World) (h : StepsAt w w.heap.size v ss) (hv : SliceOK v) (hn : ss.length ≤ 2147483647) : Calls Tryz.prog 7 #[v] w (ClonePost ss w) := by
  obtain ⟨i0, hi, hz0, hz1, hz2⟩ := info_parts Tryz.infoStep
  have q22 : ∀ (w : World) (a : Option Addr) (n c n' c' : Nat), (binOp .eql 23 (.slice a n c) (.slice none n' c')).run Tryz.prog w = .ok (.bool a.isNone) w := fun w a n c n' c' => Lib.run_eql_slice_nil w _ _ a n c n' c' Tryz.underlying23
  rcases hv with rfl | ⟨a, n, cap, rfl, hle⟩
  · obtain ⟨cv, hs, h2⟩ := h.ex
    obtain ⟨ao, b, off, cap1, hv, _, _⟩ := hs.ex
    injection hv with e1 e2 e3
    have hss : ss = [] := List.length_eq_zero_iff.1 e2.symm
    subst hss
    clear h hs h2 e1 e2 e3 hn hi hz0 hz1 hz2
    go_enter Tryz.func7, Tryz.ntmps7
    go_wp2
    go_returns
    exact ⟨_, [], rfl, rfl, ⟨rfl, Or.inl ⟨rfl, rfl⟩⟩, fun p hp => (by cases hp), Below.refl _ _⟩
  · obtain ⟨rfl, L, hL, hsrc, hck⟩ := clone_src h
    have hlen : (L.flatMap stC).length = ss.length * 6 := by rw [stC_len, ← hL, List.length_map]
    have hone := stC_one (L := L) (fun p hp => cookies_val (hck p hp))
    have HL := Lib.hid hL
    have HSRC := Lib.hid hsrc
    have HCK := Lib.hid hck
    clear hL hsrc hck h
    generalize hNW : L.flatMap stC = news at *
    have HNW := Lib.hid hNW
    clear hNW
    go_enter Tryz.func7, Tryz.ntmps7
    go_wp2_with (at_builtin; refine wpList_append_own _ rfl _ _ 23 rfl w.heap.size 32 i0 _ 6 88 Tryz.underlying23 hi hz0 hz1 hz2 rfl (by decide) _ _ _ rfl (World.ownsRow_made w #[] 0 (Nat.le_refl _) (Nat.zero_le _) (by simp)) a ss.length cap news rfl ?qc1 ?qc2 ?qc3 ?qc4 ?qc5 ?qc6 ?_)
    case qc1 => exact hlen
    case qc2 =>
      intro j u hj
      exact Lib.cell?_alloc_some _ (HSRC.out j u hj)
    case qc3 => exact hone
    case qc4 => rw [Nat.zero_add]; unfold maxLen; omega
    case qc5 => rw [Nat.zero_add]; omega
    case qc6 => simp
    intro v' w1 hown hgrow hnil
    go_wp2
    go_returns
    refine ⟨v', L, rfl, HL.out, ?_, HCK.out, ?_⟩
    · rw [HNW.out]; simpa using hown
    · exact ((Below.refl _ w).alloc (Nat.le_refl _) _).grown hgrow (by simp) (by intro k hk; simp [Value.ownBlock] at hk; omega)
theorem OutsAt.below {w w' : World} {Q : Nat → Prop} {v : Value} {pss : List (List (ByteArray × ByteArray))} (h : OutsAt w Q v pss) (hb : Below w.heap.size w w') : OutsAt w' (fun _ => True) v pss := by
  obtain ⟨ao, b, off, cap, h1, h2, h3⟩ := h
  refine ⟨ao, b, off, cap, h1, fun hl => ⟨(h2 hl).1, Nat.lt_of_lt_of_le (h2 hl).2.1 hb.size, trivial⟩, fun j ps hj => ?_⟩
  have hlt := (h2 (by have := (List.getElem?_eq_some_iff.1 hj).1; omega)).2.1
  obtain ⟨u, g1, g2⟩ := h3 j ps hj
  obtain ⟨pao, pb, poff, pcap, k1, k2, k3⟩ := g2
  refine ⟨u, (hb.cell (p := ⟨b, off + j, none⟩) hlt).trans g1, pao, pb, poff, pcap, k1, fun hl => ⟨(k2 hl).1, Nat.lt_of_lt_of_le (k2 hl).2.1 hb.size, trivial⟩, fun i p hi => ?_⟩
  have hl2 := (k2 (by have := (List.getElem?_eq_some_iff.1 hi).1; omega)).2.1
  obtain ⟨m1, m2⟩ := k3 i p hi
  exact ⟨(hb.cell (p := ⟨pb, poff + i * 2, none⟩) hl2).trans m1, (hb.cell (p := ⟨pb, poff + i * 2 + 1, none⟩) hl2).trans m2⟩
theorem StepsAt.take {w : World} {B n cap : Nat} {ao : Option Addr} {ss : List PStep} (h : StepsAt w B (.slice ao n cap) ss) (k : Nat) (hk : k ≤ ss.length) : StepsAt w B (.slice ao k cap) (ss.take k) := by
  obtain ⟨cv, hs, h2⟩ := h.ex
  obtain ⟨ao', b, off, cap1, hv, ha, hc⟩ := hs.ex
  injection hv with e1 e2 e3
  have hl : (ss.take k).length = k := by simp; omega
  refine ⟨cv, ⟨ao, b, off, cap, by rw [hl], fun h0 => ?_, fun j hj => ?_⟩, fun j s hj => h2 j s ?_⟩
  · rw [e1]; exact ha (by omega)
  · rw [hl] at hj
    have := hc j (by omega)
    have e : (ss.take k)[j]? = ss[j]? := List.getElem?_take_of_lt hj
    rw [e]; exact this
  · have hjl := (List.getElem?_eq_some_iff.1 hj).1
    rw [hl] at hjl
    rwa [List.getElem?_take_of_lt hjl] at hj
theorem fits2_use {ss : List PStep} (h : fits2 ss = true) (hw : ∀ s ∈ ss, I64 s.tm ∧ ∀ c ∈ s.cookies, I64 c.maxAge ∧ I64 c.expires) : ss.length ≤ 2147483647 ∧ ∀ s ∈ ss, StFit s := by
  unfold fits2 at h
  rw [Bool.and_eq_true, decide_eq_true_eq] at h
  refine ⟨h.1, fun s hs => ?_⟩
  have h3 := List.all_eq_true.1 h.2 s hs
  unfold fits3 at h3
  rw [Bool.and_eq_true] at h3
  have h4 := of_decide_eq_true h3.1
  have h5 := h3.2
  unfold fits5 at h5
  rw [Bool.and_eq_true, decide_eq_true_eq] at h5
  refine ⟨h4.1, Nat.le_trans h4.2.1 (by decide), h4.2.2, h5.1, (hw s hs).1, fun c hc => ?_⟩
  have h6 := of_decide_eq_true (List.all_eq_true.1 h5.2 c hc)
  have h7 := (hw s hs).2 c hc
  exact ⟨h6.1, h6.2.1, h6.2.2.1, h6.2.2.2, h7.1, h7.2⟩
/-- What a slice that is an argument looks like. -/
theorem SliceOK.form {w : World} {B : Nat} {vs : Value} {ss : List PStep} (h : SliceOK vs) (hT : StepsAt w B vs ss) : ∃ ao cap, vs = .slice ao ss.length cap ∧ ss.length ≤ cap ∧ (ao = none → cap = 0) := by
  obtain ⟨cv, hs, h2⟩ := hT.ex
  obtain ⟨ao, b, off, cap, hv, _, _⟩ := hs.ex
  refine ⟨ao, cap, hv, ?_, ?_⟩
  · rcases h with h | ⟨a, n, c, h, hle⟩
    · rw [h] at hv; injection hv with e1 e2 e3; omega
    · rw [h] at hv; injection hv with e1 e2 e3; omega
  · rintro rfl
    rcases h with h | ⟨a, n, c, h, hle⟩
    · rw [h] at hv; injection hv with e1 e2 e3; exact e3.symm
    · rw [h] at hv; injection hv with e1 e2 e3; cases e1
theorem strs_at {A X : World} {B : Nat} {v : Value} {ls : List ByteArray} (h : StrsAt A B v ls) (hB : B ≤ A.heap.size) (bb : Below A.heap.size A X) : StrsAt X X.heap.size v ls := SliceAt.up (h.below bb hB) (Nat.le_trans hB bb.size)
theorem OutsAt.any {w : World} {Q : Nat → Prop} {v : Value} {pss : List (List (ByteArray × ByteArray))} (h : OutsAt w Q v pss) : OutsAt w (fun _ => True) v pss := h.below (Below.refl _ w)
theorem OutsAt.heap {w W : World} {Q : Nat → Prop} {v : Value} {pss : List (List (ByteArray × ByteArray))} (h : OutsAt w Q v pss) (e : W.heap = w.heap) : OutsAt W Q v pss := by
  have hc : ∀ p, W.cell? p = w.cell? p := fun p => by unfold World.cell?; rw [e]
  obtain ⟨ao, b, off, cap, h1, h2, h3⟩ := h
  refine ⟨ao, b, off, cap, h1, fun hl => by rw [e]; exact h2 hl, fun j ps hj => ?_⟩
  obtain ⟨u, g1, g2⟩ := h3 j ps hj
  obtain ⟨pao, pb, poff, pcap, k1, k2, k3⟩ := g2
  exact ⟨u, (hc _).trans g1, pao, pb, poff, pcap, k1, fun hl => by rw [e]; exact k2 hl, fun i p hi => by rw [hc, hc]; exact k3 i p hi⟩
/-- Lists in memory behind a call: W is w, perhaps with draws. -/
theorem outs_step {w W w' : World} {Q : Nat → Prop} {v : Value} {pss : List (List (ByteArray × ByteArray))} (h : OutsAt w Q v pss) (hb : Below W.heap.size W w') (e : W.heap = w.heap) : OutsAt w' (fun _ => True) v pss := (h.heap e).below hb
/-- A list of steps in a row of its own. -/
def OwnS (w : World) (base : Nat) (u : Value) (L : List (PStep × Value)) : Prop := w.ownsRow base 32 6 u L.length (L.flatMap stC) ∧ base ≤ w.heap.size
theorem OwnS.keep {w w' : World} {base : Nat} {u : Value} {L : List (PStep × Value)} (h : OwnS w base u L) (hs : w.heap.size ≤ w'.heap.size) (hk : ∀ k, k < w.heap.size → w'.heap[k]? = w.heap[k]?) : OwnS w' base u L := by
  obtain ⟨⟨hl, ⟨hu, h0⟩ | ⟨g, cap, cur, hu, hb, hh, hr⟩⟩, hz⟩ := h
  · exact ⟨⟨hl, Or.inl ⟨hu, h0⟩⟩, Nat.le_trans hz hs⟩
  · exact ⟨⟨hl, Or.inr ⟨g, cap, cur, hu, hb, (hk g (Array.getElem?_eq_some_iff.1 hh).1).trans hh, hr⟩⟩, Nat.le_trans hz hs⟩
theorem OwnS.step {w W w' : World} {base : Nat} {u : Value} {L : List (PStep × Value)} (h : OwnS w base u L) (hb : Below W.heap.size W w') (e : W.heap = w.heap) : OwnS w' base u L :=
  h.keep (by rw [← e]; exact hb.size) fun k hk => by rw [hb.block k (by rw [e]; exact hk), e]
theorem OwnS.lay {w W : World} {base : Nat} {u : Value} {L : List (PStep × Value)} {o : Obj} (h : OwnS w base u L) (e : W.heap = (w.alloc o).heap) : OwnS W base u L :=
  h.keep (by rw [e]; simp) fun k hk => by rw [e]; exact Below.heap_alloc w o k hk
theorem OwnS.lt {w : World} {base : Nat} {u : Value} {L : List (PStep × Value)} (h : OwnS w base u L) {g : Nat} (hg : u.ownBlock = some g) : base ≤ g ∧ g < w.heap.size := by
  obtain ⟨⟨hl, ⟨rfl, h0⟩ | ⟨g', cap, cur, rfl, hb, hh, hr⟩⟩, _⟩ := h
  · cases hg
  · cases hg
    exact ⟨hb, (Array.getElem?_eq_some_iff.1 hh).1⟩
theorem clone_own {ss : List PStep} {w w' : World} {r : Ending} (h : ClonePost ss w r w') : ∃ (u : Value) (L : List (PStep × Value)), r = .returned u ∧ L.map (·.1) = ss ∧ OwnS w' w.heap.size u L ∧ (∀ p ∈ L, CookiesAt w w.heap.size p.2 p.1.cookies) ∧ Below w.heap.size w w' := by
  obtain ⟨u, L, h1, h2, h3, h4, h5⟩ := h
  refine ⟨u, L, h1, h2, ⟨?_, h5.size⟩, h4, h5⟩
  rw [← h2, List.length_map] at h3
  exact h3
theorem clone_len {L : List (PStep × Value)} {ss : List PStep} (h : L.map (·.1) = ss) (hn : ss.length ≤ 2147483647) : L.length ≤ 2147483647 := by
  rw [← h, List.length_map] at hn
  exact hn
/-- Steps appended to a row of steps of its own. -/
theorem app_end {A X Y w3 : World} {u v3 : Value} {ss : List PStep} {L M : List (PStep × Value)} (hL : L.map (·.1) = ss) (hown : OwnS Y X.heap.size u L) (hown3 : w3.ownsRow X.heap.size 32 6 v3 (L.length + M.length) (L.flatMap stC ++ M.flatMap stC)) (hgrow : Y.grownBy w3 u.ownBlock)
    (hX : Below X.heap.size X Y) (hA : Below A.heap.size A Y) (hAX : A.heap.size ≤ X.heap.size) (hck : ∀ p ∈ L, CookiesAt X X.heap.size p.2 p.1.cookies) (hM : ∀ p ∈ M, CookiesAt w3 w3.heap.size p.2 p.1.cookies) :
    StepsAt w3 w3.heap.size v3 (ss ++ M.map (·.1)) ∧ Below A.heap.size A w3 := by
  have hb : Below X.heap.size X w3 := hX.grown hgrow hX.size (fun k hk => (hown.lt hk).1)
  refine ⟨?_, hA.grown hgrow hA.size (fun k hk => Nat.le_trans hAX (hown.lt hk).1)⟩
  rw [← hL, ← List.map_append]
  refine steps_of_own (base := X.heap.size) ?_ (fun p hp => ?_)
  · rw [List.length_append, List.flatMap_append]
    exact hown3
  · rcases List.mem_append.1 hp with h | h
    · exact SliceAt.up ((hck p h).below hb (Nat.le_refl _)) hb.size
    · exact hM p h
/-- A block laid just ahead of a call. -/
theorem lay_step {X W w' : World} {us : List Value} {T : TypeId} (hb : Below W.heap.size W w') (e : W.heap = (X.alloc (.cells us.toArray T)).heap) : RowAt w' X.heap.size 0 us ∧ X.heap.size < w'.heap.size := by
  have hs : W.heap.size = X.heap.size + 1 := by rw [e]; simp
  have h1 : RowAt W X.heap.size 0 us := fun i u hu => by
    have := RowAt.new X us T i u hu
    unfold World.cell? at this ⊢
    rw [e]; exact this
  exact ⟨h1.below hb (by omega), by have := hb.size; omega⟩
theorem lay_new {X W : World} {us : List Value} {T : TypeId} (e : W.heap = (X.alloc (.cells us.toArray T)).heap) : RowAt W X.heap.size 0 us := fun i u hu => by
  have := RowAt.new X us T i u hu
  unfold World.cell? at this ⊢
  rw [e]; exact this
theorem row_heap {X W : World} {b : Nat} {us : List Value} (h : RowAt X b 0 us) (e : W.heap = X.heap) : RowAt W b 0 us := fun i u hu => by
  have := h i u hu
  unfold World.cell? at this ⊢
  rw [e]; exact this
theorem row_news {w : World} {b : Nat} {us : List Value} (h : RowAt w b 0 us) : ∀ j u, us[j]? = some u → w.cell? ((⟨b, 0, none⟩ : Addr).add j) = some u := fun j u hj => by
  rw [addr_add]
  exact h j u hj
def askS (t : Int) (sc ho pa : ByteArray) : PStep × Value := (⟨false, t, sc, ho, pa, []⟩, .slice none 0 0)
theorem ask_news (t : Int) (sc ho pa : ByteArray) : ∀ u ∈ [askS t sc ho pa].flatMap stC, u.oneCell' = true := stC_one fun p hp => by
  rw [List.mem_singleton] at hp
  subst hp
  rfl
theorem ask_ck {w : World} {t : Int} {sc ho pa : ByteArray} : ∀ p ∈ [askS t sc ho pa], CookiesAt w w.heap.size p.2 p.1.cookies := fun p hp => by
  rw [List.mem_singleton] at hp
  subst hp
  exact cookies_nil _ _
theorem row_lay {w W w' : World} {b : Nat} {us : List Value} {o : Obj} (h : RowAt w b 0 us ∧ b < w.heap.size) (hb : Below W.heap.size W w') (e : W.heap = (w.alloc o).heap) : RowAt w' b 0 us ∧ b < w'.heap.size := by
  have hl : b < W.heap.size := by rw [e]; have := h.2; simp; omega
  refine ⟨?_, Nat.lt_of_lt_of_le hl hb.size⟩
  refine RowAt.below (w := W) (fun i u hu => ?_) hb hl
  have h1 := h.1.below ((Below.refl w.heap.size w).alloc (Nat.le_refl _) o) h.2 i u hu
  unfold World.cell? at h1 ⊢
  rw [e]; exact h1
theorem own_ne_new {w : World} {base b1 : Nat} {u : Value} {L : List (PStep × Value)} (h : OwnS w base u L) (hb : w.heap.size ≤ b1) : ∀ g, u.ownBlock = some g → g ≠ b1 := fun g hg => by have := (h.lt hg).2; omega
theorem own_ne_old {w : World} {base b1 : Nat} {u : Value} {L : List (PStep × Value)} (h : OwnS w base u L) (hb : b1 < base) : ∀ g, u.ownBlock = some g → g ≠ b1 := fun g hg => by have := (h.lt hg).1; omega
def putS (t : Int) (sc ho pa : ByteArray) (c : PCookie) (b : Nat) : PStep × Value := (⟨true, t, sc, ho, pa, [c]⟩, .slice (some ⟨b, 0, none⟩) 1 1)
theorem more_news (t t' : Int) (sc sc' ho pa : ByteArray) (c : PCookie) (b : Nat) : ∀ u ∈ [putS t sc ho pa c b, askS t' sc' ho pa].flatMap stC, u.oneCell' = true := stC_one fun p hp => by
  simp only [List.mem_cons, List.not_mem_nil, or_false] at hp
  rcases hp with rfl | rfl <;> rfl
theorem more_ck {Y w : World} {t t' : Int} {sc sc' ho pa : ByteArray} {c : PCookie} {b : Nat} {u : Value} (hR : RowAt Y b 0 (ckCells c) ∧ b < Y.heap.size) (hg : Y.grownBy w u.ownBlock) (hne : ∀ g, u.ownBlock = some g → g ≠ b) (hlt : b < w.heap.size) :
    ∀ p ∈ [putS t sc ho pa c b, askS t' sc' ho pa], CookiesAt w w.heap.size p.2 p.1.cookies := fun p hp => by
  simp only [List.mem_cons, List.not_mem_nil, or_false] at hp
  rcases hp with rfl | rfl
  · exact cookies_one ⟨fun i x hx => by rw [hg.cell_far ⟨b, 0 + i, none⟩ hR.2 (fun e => hne b e.symm rfl)]; exact hR.1 i x hx, hlt⟩
  · exact cookies_nil _ _
end Go.Proofs.YtcofblepdfjhjaaGreatDoor
