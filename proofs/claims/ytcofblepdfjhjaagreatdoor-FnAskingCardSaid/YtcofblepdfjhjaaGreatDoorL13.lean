/- Walks: slices.Clone and slices.SortFunc over pairs, and the laws' test of two lists in whatever order. The law FnAsking: its walk. -/
import Derived.Test.YtcofblepdfjhjaaGreatDoorStepAll
import Derived.Test.YtcofblepdfjhjaaGreatDoorAskSort
import Derived.Test.YtcofblepdfjhjaaGreatDoorLawsE
namespace Go.Proofs.YtcofblepdfjhjaaGreatDoor
open Go.RowKit Go.Sort Go.Lib
/-- A pair whose texts are not too long. -/
def BP : Type := { p : ByteArray × ByteArray // p.1.size ≤ 2147483647 ∧ p.2.size ≤ 2147483647 }
instance : Inhabited BP := ⟨⟨(⟨#[]⟩, ⟨#[]⟩), by decide, by decide⟩⟩
def encP (p : BP) : List Value := [.string p.1.1, .string p.1.2]
theorem encP_len (p : BP) : (encP p).length = 2 := rfl
theorem encP_one (p : BP) : ∀ v ∈ encP p, v.oneCell' = true := by
  intro v hv
  simp [encP] at hv
  rcases hv with rfl | rfl <;> rfl
/-- What the order looks at. -/
def keyP (p : ByteArray × ByteArray) : List UInt8 := lst (p.1 ++ ⟨#[61]⟩ ++ p.2)
def cmpP (x y : BP) : Int := if Op.bytesLess (keyP x.1) (keyP y.1) = true then -1 else 1
theorem cmpP_neg (x y : BP) : ltOf cmpP x y = Op.bytesLess (keyP x.1) (keyP y.1) := by
  unfold ltOf cmpP
  cases h : Op.bytesLess (keyP x.1) (keyP y.1) <;> simp
theorem cmpP_swo : SWO (ltOf cmpP) := by
  refine ⟨fun x => by rw [cmpP_neg]; exact bl_irrefl _, fun x y z h1 h2 => ?_, fun x y z h1 h2 => ?_⟩
  · rw [cmpP_neg] at h1 h2 ⊢
    exact bl_trans _ _ _ h1 h2
  · rw [cmpP_neg] at h1 h2 ⊢
    cases h3 : Op.bytesLess (keyP x.1) (keyP z.1)
    · rfl
    · cases h4 : Op.bytesLess (keyP y.1) (keyP x.1)
      · rw [bl_total _ _ h1 h4] at h3
        rw [h3] at h2; cases h2
      · rw [bl_trans _ _ _ h4 h3] at h2; cases h2
set_option maxRecDepth 100000 in
set_option maxHeartbeats 1600000 in
theorem sortedCmp_any (x y : BP) (w : World) : Calls Tryz.prog 27 #[.agg (encP x).toArray, .agg (encP y).toArray] w (GrowPost (.int .i64 (cmpP x y)) w) := by
  have hk : ∀ p : ByteArray × ByteArray, keyP p = (p.1 ++ ⟨#[61]⟩ ++ p.2).toList := fun p => by unfold keyP; rw [toList_lst]
  have HD : Hid (cmpP x y = if Op.bytesLess (x.1.1 ++ ⟨#[61]⟩ ++ x.1.2).toList (y.1.1 ++ ⟨#[61]⟩ ++ y.1.2).toList = true then -1 else 1) := by
    show _ = _
    unfold cmpP
    rw [hk, hk]
  generalize cmpP x y = res at *
  unfold encP
  obtain ⟨⟨x1, x2⟩, hx1, hx2⟩ := x
  obtain ⟨⟨y1, y2⟩, hy1, hy2⟩ := y
  simp only [] at hx1 hx2 hy1 hy2 HD ⊢
  clear hk
  cases hb : Op.bytesLess (x1 ++ ⟨#[61]⟩ ++ x2).toList (y1 ++ ⟨#[61]⟩ ++ y2).toList
  · have HR : Hid (res = 1) := by show _ = _; rw [HD.out, hb]; rfl
    clear HD
    go_enter Tryz.func27, Tryz.ntmps27
    go_wp2
    go_ret
    unfold GrowPost
    rw [HR.out]
    exact ⟨rfl, _, grow2 _ _ _⟩
  · have HR : Hid (res = -1) := by show _ = _; rw [HD.out, hb]; rfl
    clear HD
    go_enter Tryz.func27, Tryz.ntmps27
    go_wp2
    go_ret
    unfold GrowPost
    rw [HR.out]
    exact ⟨rfl, _, grow2 _ _ _⟩
theorem flatP_len : ∀ L : List BP, (L.flatMap encP).length = L.length * 2
  | [] => rfl
  | x :: r => by rw [List.flatMap_cons, List.length_append, flatP_len r, encP_len, List.length_cons]; omega
theorem flatP_get : ∀ (L : List BP) (i c : Nat), c < 2 → i < L.length → (L.flatMap encP)[i * 2 + c]? = (encP (L[i]!))[c]?
  | [], i, c, _, h => absurd h (by simp)
  | x :: r, 0, c, hc, _ => by
    rw [List.flatMap_cons, List.getElem?_append_left (by rw [encP_len]; omega)]
    simp
  | x :: r, i + 1, c, hc, h => by
    rw [List.flatMap_cons, List.getElem?_append_right (by rw [encP_len]; omega), encP_len]
    have e : (i + 1) * 2 + c - 2 = i * 2 + c := by omega
    rw [e, flatP_get r i c hc (by simpa using h)]
    simp
theorem chg_sortP (w : World) (blk n : Nat) (d : Array BP) (os : Array Obj) : Chg (· = blk) w (sortWorldK encP 2 w blk 0 n d os) := by
  unfold sortWorldK
  refine ⟨rfl, rfl, rfl, ?_, fun k hk hn => ?_⟩
  · rw [size_grow, size_putRowK]; exact Nat.le_add_right _ _
  · have hs : k < (putRowK encP 2 (Sort.ahead w n) blk 0 d).heap.size := by rw [size_putRowK]; exact hk
    rw [grow, Array.getElem?_append_left hs]
    simp only [putRowK, putRow, mapBlock]
    rw [Array.getElem?_modify, if_neg (fun e => hn e.symm)]
    rfl
theorem holds_ownP {w : World} {base : Nat} {v : Value} {L : List BP} (h : w.ownsRow base 54 2 v L.length (L.flatMap encP)) (hne : L ≠ []) :
    ∃ g cap, v = .slice (some ⟨g, 0, none⟩) L.length cap ∧ base ≤ g ∧ g < w.heap.size ∧ HoldsK encP 2 w g 0 L.toArray := by
  have hc := fun g hg => h.cells (g := g) hg
  obtain ⟨hl, ⟨_, h0⟩ | ⟨g, cap, cur, rfl, hb, hh, h1, h2, h3, h4⟩⟩ := h
  · exact absurd (List.length_eq_zero_iff.1 h0) hne
  · refine ⟨g, cap, rfl, hb, (Array.getElem?_eq_some_iff.1 hh).1, fun j hj => ⟨?_, ?_⟩⟩
    · rw [size_flatK] at hj
      have hj' : j < L.length * 2 := by simpa using hj
      rw [get_flatK _ _ _ _ hj]
      have e1 := flatP_get L (j / 2) (j % 2) (Nat.mod_lt _ (by omega)) (by omega)
      have e2 : j / 2 * 2 + j % 2 = j := by omega
      rw [e2] at e1
      have hlt : j % 2 < (encP (L[j / 2]!)).length := by rw [encP_len]; exact Nat.mod_lt _ (by omega)
      rw [List.getElem?_eq_getElem hlt] at e1
      have := hc g rfl j _ e1
      have e3 : (L.toArray[j / 2]! : BP) = L[j / 2]! := by simp
      rw [e3]
      have e4 : (encP (L[j / 2]!))[j % 2]! = (encP (L[j / 2]!))[j % 2] := getElem!_pos (encP (L[j / 2]!)) (j % 2) hlt
      rw [e4]
      rw [Nat.zero_add]
      have e5 : (⟨g, 0, none⟩ : Addr).add j = ⟨g, j, none⟩ := by
        unfold Addr.add
        by_cases hj0 : j = 0
        · subst hj0; simp
        · simp [hj0]
      rw [e5] at this
      exact this
    · simp [World.frozen?, hh]
def CmpPostP (L : List BP) (v : Value) (base : Nat) (w : World) (r : Ending) (w' : World) : Prop :=
  r = .returned (.tuple #[]) ∧ ∃ L' : List BP, L'.Perm L ∧ L'.Pairwise (fun x y => ltOf cmpP y x = false) ∧ Chg (fun k => v.ownBlock = some k) w w' ∧
    ((∃ g cap, v = .slice (some ⟨g, 0, none⟩) L'.length cap ∧ base ≤ g ∧ g < w'.heap.size ∧ ∀ i e, L'[i]? = some e → RowAt w' g (i * 2) (encP e)) ∨ (v = .slice none 0 0 ∧ L' = []))
theorem sort_pairs (L : List BP) (v : Value) (base : Nat) (w : World) (h : w.ownsRow base 54 2 v L.length (L.flatMap encP)) (hsz : L.length < 4611686018427387904) :
    Calls Tryz.prog 28 #[v, .func (.func 27) #[] #[]] w (CmpPostP L v base w) := by
  by_cases hne : L = []
  · subst hne
    obtain ⟨_, ⟨rfl, _⟩ | ⟨g, cap, cur, rfl, hb, hh, h1, h2, h3, h4⟩⟩ := h
    · refine (AnyF.slices_SortFunc_none (P := Tryz.prog) (ρ := Tryz.sortPair_ren) Tryz.sortPair none 0 (.func (.func 27) #[] #[]) w).mono ?_
      rintro r w' ⟨rfl, rfl⟩
      exact ⟨rfl, [], List.Perm.refl _, List.Pairwise.nil, Chg.refl _ _, Or.inr ⟨rfl, rfl⟩⟩
    · refine (AnyF.slices_SortFunc_none (P := Tryz.prog) (ρ := Tryz.sortPair_ren) Tryz.sortPair (some ⟨g, 0, none⟩) cap (.func (.func 27) #[] #[]) w).mono ?_
      rintro r w' ⟨rfl, rfl⟩
      exact ⟨rfl, [], List.Perm.refl _, List.Pairwise.nil, Chg.refl _ _, Or.inl ⟨g, cap, rfl, hb, (Array.getElem?_eq_some_iff.1 hh).1, fun i e he => by simp at he⟩⟩
  · obtain ⟨g, cap, rfl, hb, hg, hH⟩ := holds_ownP h hne
    have eg : ∀ args w, (callFunc 27 args).run Tryz.prog w = .ok (.enter 27 args) w := enters_of Tryz.func27 (by kernel_rfl) rfl
    have hcmp : CmpLays Tryz.prog 27 #[] encP 2 cmpP g 0 L.toArray.size w := by
      intro m os dk _ x y
      refine (sortedCmp_any x y _).mono ?_
      rintro r w' ⟨rfl, os', rfl⟩
      exact ⟨rfl, 0, os', rfl⟩
    have hcon := AnyQ.slices_SortFunc Tryz.sortPair 2 Tryz.isAgg54 Tryz.sizeOf54 encP encP_len encP_one cmpP cmpP_swo 27 #[] g 0 cap L.toArray w eg hcmp hH hg (by simpa using hsz)
    refine hcon.mono ?_
    rintro r w' ⟨rfl, d', n, os, ⟨p1, _, p3⟩, hs, rfl⟩
    have hH' := holdsK_sortWorldK_c encP 2 w g 0 L.toArray d' n os hH hg p1
    have hsz' : d'.size = L.length := by simpa using p1
    have hperm : d'.toList.Perm L := by
      have e1 : d'.extract 0 L.toArray.size = d' := by rw [← p1]; simp
      have e2 : L.toArray.extract 0 L.toArray.size = L.toArray := by simp
      rw [e1, e2] at p3
      simpa using p3
    refine ⟨rfl, d'.toList, hperm, ?_, (chg_sortP w g n d' os).mono (fun i _ e => by subst e; rfl), Or.inl ⟨g, cap, by rw [show d'.toList.length = L.toArray.size from p1]; rfl, hb, ?_, fun i e he => ?_⟩⟩
    · rw [List.pairwise_iff_getElem]
      intro i j hi hj hij
      have hi' : i < d'.size := by simpa using hi
      have hj' : j < d'.size := by simpa using hj
      have := hs i j (Nat.zero_le _) hij (by rw [← p1]; exact hj')
      rw [getElem!_pos d' i hi', getElem!_pos d' j hj'] at this
      simpa using this
    · exact Nat.lt_of_lt_of_le hg (chg_sortP w g n d' os).size
    · have hi : i < d'.toList.length := (List.getElem?_eq_some_iff.1 he).1
      have hi' : i < d'.size := by simpa using hi
      have hde : d'[i]! = e := by
        rw [getElem!_pos d' i hi']
        rw [List.getElem?_eq_getElem hi] at he
        simpa using Option.some.inj he
      intro c u hu
      have hc : c < 2 := by have := (List.getElem?_eq_some_iff.1 hu).1; simpa [encP] using this
      have := (hH'.cell hi' hc).1
      rw [hde] at this
      have e4 : (encP e)[c]! = u := by
        have hl : c < (encP e).length := by rw [encP_len]; exact hc
        rw [getElem!_pos (encP e) c hl]
        rw [show encP e = encP e from rfl, List.getElem?_eq_getElem hl] at hu
        exact Option.some.inj hu
      rw [e4] at this
      simpa using this
theorem Tryz.infoPairB : (Tryz.prog.info? 54).map (fun i => (i.zero, i.size, i.bytes)) = some (some (.agg #[.string ⟨#[]⟩, .string ⟨#[]⟩]), 2, 32) := by kernel_rfl
theorem flatP_inv : ∀ (L : List BP) (j : Nat) (u : Value), (L.flatMap encP)[j]? = some u → ∃ i c p, j = i * 2 + c ∧ L[i]? = some p ∧ (encP p)[c]? = some u
  | [], j, u, h => by simp at h
  | x :: r, j, u, h => by
    rw [List.flatMap_cons] at h
    have hl : (encP x).length = 2 := rfl
    by_cases hj : j < 2
    · rw [List.getElem?_append_left (by omega)] at h
      exact ⟨0, j, x, by omega, rfl, h⟩
    · rw [List.getElem?_append_right (by omega), hl] at h
      obtain ⟨i, c, p, e, h1, h2⟩ := flatP_inv r (j - 2) u h
      exact ⟨i + 1, c, p, by omega, by simpa using h1, h2⟩
theorem flatP_one (L : List BP) : ∀ u ∈ L.flatMap encP, u.oneCell' = true := by
  intro u hu
  obtain ⟨p, _, hu⟩ := List.mem_flatMap.1 hu
  exact encP_one p u hu
/-- The cells of pairs. -/
theorem pairs_src {w : World} {Q : Nat → Prop} {a : Addr} {n cap : Nat} {ps : List (ByteArray × ByteArray)} {L : List BP} (hL : L.map (·.1) = ps) (h : PairsAt w Q (.slice (some a) n cap) ps) :
    n = L.length ∧ ∀ j u, (L.flatMap encP)[j]? = some u → w.cell? (a.add j) = some u := by
  obtain ⟨ao, b, off, cap1, hv, h1, h2⟩ := h
  injection hv with e1 e2 e3
  refine ⟨by rw [e2, ← hL, List.length_map], fun j u hj => ?_⟩
  obtain ⟨i, c, p, rfl, hp, hu⟩ := flatP_inv L j u hj
  have hi := (List.getElem?_eq_some_iff.1 hp).1
  have hps : ps[i]? = some p.1 := by rw [← hL, List.getElem?_map, hp]; rfl
  obtain ⟨e4, _, _⟩ := h1 (by rw [← hL, List.length_map]; omega)
  rw [e4] at e1
  obtain rfl : a = ⟨b, off, none⟩ := Option.some.inj e1
  obtain ⟨g1, g2⟩ := h2 i p.1 hps
  rw [Go.WideShapes.add_plain, ← Nat.add_assoc]
  match c, hu with
  | 0, hu => cases hu; exact g1
  | 1, hu => cases hu; exact g2
  | c + 2, hu => simp [encP] at hu
set_option maxRecDepth 100000 in
set_option maxHeartbeats 3200000 in
theorem clonePair_any {Q : Nat → Prop} (v : Value) (ps : List (ByteArray × ByteArray)) (L : List BP) (w : World) (hL : L.map (·.1) = ps) (h : PairsAt w Q v ps) (hn : ps.length ≤ 2147483647) :
    Calls Tryz.prog 26 #[v] w fun r w' => ∃ u, r = .returned u ∧ w'.ownsRow w.heap.size 54 2 u L.length (L.flatMap encP) ∧ Below w.heap.size w w' := by
  obtain ⟨i0, hi, hz0, hz1, hz2⟩ := info_parts Tryz.infoPairB
  have q22 : ∀ (w : World) (a : Option Addr) (n c n' c' : Nat), (binOp .eql 37 (.slice a n c) (.slice none n' c')).run Tryz.prog w = .ok (.bool a.isNone) w := fun w a n c n' c' => Lib.run_eql_slice_nil w _ _ a n c n' c' Tryz.underlying37
  have hlL : L.length = ps.length := by rw [← hL, List.length_map]
  have h' := h
  obtain ⟨ao, b, off, cap, rfl, h1, h2⟩ := h
  cases ao with
  | none =>
    have h0 : ps.length = 0 := by
      rcases Nat.eq_zero_or_pos ps.length with e | e
      · exact e
      · exact absurd (h1 e).1 (by simp)
    have hLn : L = [] := List.length_eq_zero_iff.1 (by omega)
    subst hLn
    clear h1 h2 h' hi hz0 hz1 hz2 hL hlL hn
    go_enter Tryz.func26, Tryz.ntmps26
    go_wp2
    go_returns
    exact ⟨_, rfl, ⟨rfl, Or.inl ⟨rfl, rfl⟩⟩, Below.refl _ _⟩
  | some a =>
    obtain ⟨hnl, hsrc⟩ := pairs_src hL h'
    have hlen : (L.flatMap encP).length = ps.length * 2 := by rw [flatP_len, hlL]
    have hone := flatP_one L
    have HSRC := Lib.hid hsrc
    have HLL := Lib.hid hlL
    clear hL hsrc h' h1 h2 hnl hlL
    generalize hNW : L.flatMap encP = news at *
    have HNW := Lib.hid hNW
    clear hNW
    go_enter Tryz.func26, Tryz.ntmps26
    go_wp2_with (at_builtin; refine wpList_append_own _ rfl _ _ 37 rfl w.heap.size 54 i0 _ 2 32 Tryz.underlying37 hi hz0 hz1 hz2 rfl (by decide) _ _ _ rfl (World.ownsRow_made w #[] 0 (Nat.le_refl _) (Nat.zero_le _) (by simp)) a ps.length cap news rfl ?qc1 ?qc2 ?qc3 ?qc4 ?qc5 ?qc6 ?_)
    case qc1 => exact hlen
    case qc2 =>
      intro j u hj
      exact Lib.cell?_alloc_some _ (HSRC.out j u hj)
    case qc3 => exact hone
    case qc4 => rw [Nat.zero_add]; unfold maxLen; omega
    case qc5 => rw [Nat.zero_add]; omega
    case qc6 => simp
    intro v' w1 hown hgrow hnil
    go_wp2
    go_returns
    refine ⟨v', rfl, ?_, ?_⟩
    · rw [HLL.out]; simpa using hown
    · exact ((Below.refl _ w).alloc (Nat.le_refl _) _).grown hgrow (by simp) (by intro k hk; simp [Value.ownBlock] at hk; omega)
theorem pairs_of {w : World} {v : Value} {base : Nat} {L : List BP} (h : (∃ g cap, v = .slice (some ⟨g, 0, none⟩) L.length cap ∧ base ≤ g ∧ g < w.heap.size ∧ ∀ i e, L[i]? = some e → RowAt w g (i * 2) (encP e)) ∨ (v = .slice none 0 0 ∧ L = [])) : PairsAt w (fun _ => True) v (L.map (·.1)) := by
  rcases h with ⟨g, cap, rfl, hb, hg, hr⟩ | ⟨rfl, rfl⟩
  · refine ⟨_, g, 0, cap, by rw [List.length_map], fun _ => ⟨rfl, hg, trivial⟩, fun j p hj => ?_⟩
    rw [List.getElem?_map] at hj
    cases hp : L[j]? with
    | none => rw [hp] at hj; cases hj
    | some q =>
      rw [hp] at hj
      obtain rfl : q.1 = p := Option.some.inj hj
      have h1 := hr j q hp 0 _ rfl
      have h2 := hr j q hp 1 _ rfl
      rw [Nat.zero_add]
      exact ⟨h1, h2⟩
  · exact ⟨none, 0, 0, 0, rfl, fun h => absurd h (by simp), fun j p h => by simp at h⟩
theorem chg_below {base : Nat} {S : Nat → Prop} {w w' : World} (h : Chg S w w') (hS : ∀ k, S k → base ≤ k) (hb : base ≤ w.heap.size) : Below base w w' := by
  obtain ⟨h1, h2, h3, h4, h5⟩ := h
  exact ⟨h1, h2, h3, h4, fun k hk => h5 k (by omega) fun hs => by have := hS k hs; omega⟩
theorem ownP_chg {S : Nat → Prop} {w w' : World} {base size n : Nat} {e : TypeId} {v : Value} {xs : List Value} (h : w.ownsRow base e size v n xs) (hc : Chg S w w') (hS : ∀ g, v.ownBlock = some g → ¬ S g) : w'.ownsRow base e size v n xs := by
  obtain ⟨hl, hn | ⟨g, cap, cur, rfl, hb, hh, hr⟩⟩ := h
  · exact ⟨hl, Or.inl hn⟩
  · obtain ⟨h1, h2, h3, h4, h5⟩ := hc
    exact ⟨hl, Or.inr ⟨g, cap, cur, rfl, hb, (h5 g (Array.getElem?_eq_some_iff.1 hh).1 (hS g rfl)).trans hh, hr⟩⟩
theorem ownP_bel {w w' : World} {base size n : Nat} {e : TypeId} {v : Value} {xs : List Value} (h : w.ownsRow base e size v n xs) (hc : Below w.heap.size w w') : w'.ownsRow base e size v n xs := by
  obtain ⟨hl, hn | ⟨g, cap, cur, rfl, hb, hh, hr⟩⟩ := h
  · exact ⟨hl, Or.inl hn⟩
  · exact ⟨hl, Or.inr ⟨g, cap, cur, rfl, hb, (hc.block g (Array.getElem?_eq_some_iff.1 hh).1).trans hh, hr⟩⟩
theorem ownP_at {w : World} {base size n : Nat} {e : TypeId} {v : Value} {xs : List Value} (h : w.ownsRow base e size v n xs) {g : Nat} (hg : v.ownBlock = some g) : base ≤ g ∧ g < w.heap.size := by
  obtain ⟨hl, ⟨rfl, h0⟩ | ⟨g', cap, cur, rfl, hb, hh, hr⟩⟩ := h
  · cases hg
  · cases hg
    exact ⟨hb, (Array.getElem?_eq_some_iff.1 hh).1⟩
/-- Two sorted lists of the same pairs are the same, where the key tells a pair. -/
theorem sorted_same : ∀ (a b : List BP), a.Perm b → a.Pairwise (fun x y => ltOf cmpP y x = false) → b.Pairwise (fun x y => ltOf cmpP y x = false) → (∀ x ∈ a, ∀ y ∈ a, keyP x.1 = keyP y.1 → x = y) → a = b
  | [], b, h, _, _, _ => (List.perm_nil.1 h.symm).symm
  | x :: r, [], h, _, _, _ => absurd h.length_eq (by simp)
  | x :: r, y :: s, h, ha, hb, hk => by
    obtain ⟨ha1, ha2⟩ := List.pairwise_cons.1 ha
    obtain ⟨hb1, hb2⟩ := List.pairwise_cons.1 hb
    have hxy : x = y := by
      have hy : y ∈ x :: r := h.mem_iff.2 List.mem_cons_self
      have hx : x ∈ y :: s := h.mem_iff.1 List.mem_cons_self
      rcases List.mem_cons.1 hy with e | e
      · exact e.symm
      · rcases List.mem_cons.1 hx with e' | e'
        · exact e'
        · have h1 := ha1 y e
          have h2 := hb1 x e'
          rw [cmpP_neg] at h1 h2
          exact hk x List.mem_cons_self y hy (bl_total _ _ h2 h1)
    subst hxy
    rw [sorted_same r s (List.Perm.cons_inv h) ha2 hb2 fun u hu v hv => hk u (List.mem_cons_of_mem _ hu) v (List.mem_cons_of_mem _ hv)]
/-- Names without a = sign. -/
def NoEq (p : ByteArray × ByteArray) : Prop := ∀ z ∈ lst p.1, z ≠ 61
theorem key_split : ∀ (a b c d : List UInt8), (∀ z ∈ a, z ≠ 61) → (∀ z ∈ c, z ≠ 61) → a ++ 61 :: b = c ++ 61 :: d → a = c ∧ b = d
  | [], b, [], d, _, _, h => ⟨rfl, by simpa using h⟩
  | [], b, y :: c, d, _, hc, h => by
    rw [List.nil_append, List.cons_append] at h
    injection h with h1 _
    exact absurd h1.symm (hc y List.mem_cons_self)
  | x :: a, b, [], d, ha, _, h => by
    rw [List.nil_append, List.cons_append] at h
    injection h with h1 _
    exact absurd h1 (ha x List.mem_cons_self)
  | x :: a, b, y :: c, d, ha, hc, h => by
    rw [List.cons_append, List.cons_append] at h
    injection h with h1 h2
    obtain ⟨e1, e2⟩ := key_split a b c d (fun z hz => ha z (List.mem_cons_of_mem _ hz)) (fun z hz => hc z (List.mem_cons_of_mem _ hz)) h2
    rw [h1, e1, e2]; exact ⟨rfl, rfl⟩
theorem lst_app3 (a b : ByteArray) : lst (a ++ ⟨#[61]⟩ ++ b) = lst a ++ 61 :: lst b := by
  have h : ∀ x y : ByteArray, lst (x ++ y) = lst x ++ lst y := fun x y => by unfold lst; simp
  rw [h, h, List.append_assoc]
  rfl
theorem keyP_inj {p q : ByteArray × ByteArray} (hp : NoEq p) (hq : NoEq q) (h : keyP p = keyP q) : p = q := by
  unfold keyP at h
  rw [lst_app3, lst_app3] at h
  obtain ⟨e1, e2⟩ := key_split _ _ _ _ hp hq h
  exact Prod.ext (lst_inj e1) (lst_inj e2)
theorem bp_list : ∀ (ps : List (ByteArray × ByteArray)), (∀ p ∈ ps, p.1.size ≤ 2147483647 ∧ p.2.size ≤ 2147483647) → ∃ L : List BP, L.map (·.1) = ps
  | [], _ => ⟨[], rfl⟩
  | p :: r, h => by
    obtain ⟨L, hL⟩ := bp_list r fun q hq => h q (List.mem_cons_of_mem _ hq)
    have e : ((⟨p, h p List.mem_cons_self⟩ : BP) :: L).map (·.1) = p :: L.map (·.1) := rfl
    exact ⟨_, e.trans (congrArg (p :: ·) hL)⟩
theorem bp_inj : ∀ (a b : List BP), a.map (·.1) = b.map (·.1) → a = b
  | [], [], _ => rfl
  | [], _ :: _, h => by simp at h
  | _ :: _, [], h => by simp at h
  | x :: r, y :: s, h => by
    rw [List.map_cons, List.map_cons] at h
    injection h with h1 h2
    rw [Subtype.ext h1, bp_inj r s h2]
theorem perm_bp {a b : List BP} (h : (a.map (·.1)).Perm (b.map (·.1))) : a.Perm b := by
  have key : ∀ (x y : List (ByteArray × ByteArray)), x.Perm y → ∀ a : List BP, a.map (·.1) = x → ∃ b : List BP, b.map (·.1) = y ∧ a.Perm b := by
    intro x y h
    induction h with
    | nil => intro a ha; exact ⟨[], rfl, by rw [List.map_eq_nil_iff.1 ha]⟩
    | @cons p x y _ ih =>
      intro a ha
      match a, ha with
      | u :: a, ha =>
        rw [List.map_cons] at ha
        injection ha with e1 e2
        obtain ⟨b, hb, hp⟩ := ih a e2
        exact ⟨u :: b, by rw [List.map_cons, hb, e1], hp.cons u⟩
    | swap p q x =>
      intro a ha
      match a, ha with
      | u :: v :: a, ha =>
        rw [List.map_cons, List.map_cons] at ha
        injection ha with e1 e2
        injection e2 with e2 e3
        exact ⟨v :: u :: a, by rw [List.map_cons, List.map_cons, e1, e2, e3], List.Perm.swap v u a⟩
    | trans _ _ ih1 ih2 =>
      intro a ha
      obtain ⟨b, hb, hp⟩ := ih1 a ha
      obtain ⟨c, hc, hq⟩ := ih2 b hb
      exact ⟨c, hc, hp.trans hq⟩
  obtain ⟨c, hc, hp⟩ := key _ _ h a rfl
  rw [bp_inj c b hc] at hp
  exact hp
set_option maxRecDepth 100000 in
set_option maxHeartbeats 3200000 in
theorem sorted_any {Q Q' : Nat → Prop} (v v' : Value) (ps qs : List (ByteArray × ByteArray)) (w : World) (h : PairsAt w Q v ps) (h' : PairsAt w Q' v' qs) (hn : ps.length ≤ 2147483647) (hperm : ps.Perm qs)
    (hsz : ∀ p ∈ ps, p.1.size ≤ 2147483647 ∧ p.2.size ≤ 2147483647) (hne : ∀ p ∈ ps, NoEq p) :
    Calls Tryz.prog 13 #[v, v'] w fun r w' => r = .returned (.bool true) ∧ Below w.heap.size w w' := by
  obtain ⟨L, hL⟩ := bp_list ps hsz
  obtain ⟨M, hM⟩ := bp_list qs fun p hp => hsz p (hperm.mem_iff.2 hp)
  have hn' : qs.length ≤ 2147483647 := by rw [← hperm.length_eq]; exact hn
  have HC1 := clonePair_any v ps L w hL h hn
  have hll : L.length ≤ 2147483647 := by rw [← hL, List.length_map] at hn; exact hn
  have hml : M.length ≤ 2147483647 := by rw [← hM, List.length_map] at hn'; exact hn'
  have HL := Lib.hid hL
  have HM := Lib.hid hM
  have HPERM := Lib.hid hperm
  have HNE := Lib.hid hne
  obtain ⟨ao, b, off, cap, rfl, _⟩ := id h
  clear hL hperm hne hsz
  go_enter Tryz.func13, Tryz.ntmps13
  go_wp2_with fail
  refine HC1.mono ?_
  rintro r w1 ⟨u1, rfl, hr1, hb1⟩
  have HC2 := clonePair_any v' qs M w1 hM (h'.below hb1) hn'
  clear HC1 h h' hM
  go_wp2_with fail
  refine HC2.mono ?_
  rintro r w2 ⟨u2, rfl, hr2, hb2⟩
  have hr1' := ownP_bel hr1 hb2
  have hbw2 := hb1.trans (hb2.mono hb1.size)
  have hdis : ∀ g, u2.ownBlock = some g → ¬ u1.ownBlock = some g := fun g hg hg1 => by
    have a1 := (ownP_at hr1 hg1).2
    have a2 := (ownP_at hr2 hg).1
    omega
  have hbase1 : ∀ g, u1.ownBlock = some g → w.heap.size ≤ g := fun g hg => (ownP_at hr1 hg).1
  have hbase2 : ∀ g, u2.ownBlock = some g → w.heap.size ≤ g := fun g hg => Nat.le_trans hb1.size (ownP_at hr2 hg).1
  have HS1 := sort_pairs L u1 w.heap.size w2 hr1' (by omega)
  clear HC2 hr1 hb1 hb2 hr1'
  go_wp2_with fail
  refine HS1.mono ?_
  rintro r w3 ⟨rfl, L', hp1, hs1, hc1, ho1⟩
  have hr2' := ownP_chg hr2 hc1 hdis
  have hb3 := hbw2.trans (chg_below hc1 hbase1 hbw2.size)
  have HS2 := sort_pairs M u2 w1.heap.size w3 hr2' (by omega)
  have HO1 := Lib.hid ho1
  have HP1 := Lib.hid hp1
  have HS1' := Lib.hid hs1
  clear HS1 hr2 hc1 hbw2 hr2' ho1 hp1 hs1
  go_wp2_with fail
  refine HS2.mono ?_
  rintro r w4 ⟨rfl, M', hp2, hs2, hc2, ho2⟩
  have hb4 := hb3.trans (chg_below hc2 hbase2 hb3.size)
  have ho1' : (∃ g cap, u1 = .slice (some ⟨g, 0, none⟩) L'.length cap ∧ w.heap.size ≤ g ∧ g < w4.heap.size ∧ ∀ i e, L'[i]? = some e → RowAt w4 g (i * 2) (encP e)) ∨ (u1 = .slice none 0 0 ∧ L' = []) := by
    rcases HO1.out with ⟨g, cap, rfl, x1, x2, x3⟩ | hx
    · have hng : ¬ u2.ownBlock = some g := fun e => hdis g e rfl
      exact Or.inl ⟨g, cap, rfl, x1, Nat.lt_of_lt_of_le x2 hc2.size, fun i e he => (x3 i e he).chg hc2 x2 hng⟩
    · exact Or.inr hx
  have P1 := pairs_of ho1'
  have P2 := pairs_of ho2
  have heq : L'.map (·.1) = M'.map (·.1) := by
    have hLM : L.Perm M := by
      have h1 : (L.map (·.1)).Perm (M.map (·.1)) := by rw [HL.out, HM.out]; exact HPERM.out
      exact perm_bp h1
    have hk : ∀ x ∈ L', ∀ y ∈ L', keyP x.1 = keyP y.1 → x = y := fun x hx y hy e => by
      have m1 : x.1 ∈ ps := by rw [← HL.out]; exact List.mem_map_of_mem (HP1.out.mem_iff.1 hx)
      have m2 : y.1 ∈ ps := by rw [← HL.out]; exact List.mem_map_of_mem (HP1.out.mem_iff.1 hy)
      exact Subtype.ext (keyP_inj (HNE.out _ m1) (HNE.out _ m2) e)
    rw [sorted_same L' M' ((HP1.out.trans hLM).trans hp2.symm) HS1'.out hs2 hk]
  have hl1 : (L'.map (·.1)).length ≤ 2147483647 := by rw [List.length_map, HP1.out.length_eq]; exact hll
  have HEQ := eqPair_eq (Below.refl w4.heap.size w4) (Same.refl w4) P1 P2 hl1 heq
  clear HS2 hc2 ho2 hp2 hs2 P1 P2 ho1' heq
  go_wp2_with fail
  refine HEQ.mono ?_
  rintro r w5 ⟨rfl, hb5⟩
  go_wp2
  go_returns
  exact ⟨rfl, hb4.trans (hb5.mono hb4.size)⟩
end Go.Proofs.YtcofblepdfjhjaaGreatDoor
namespace Go.Proofs.YtcofblepdfjhjaaGreatDoor
open Go.RowKit
/-- An entry whose name has no = sign, of texts that are not too long. -/
def EntP (e : Ent) : Prop := (∀ z ∈ lst e.name, z ≠ 61) ∧ e.name.size ≤ 2147483647 ∧ e.value.size ≤ 2147483647
def CkP (c : PCookie) : Prop := (∀ z ∈ lst c.name, z ≠ 61) ∧ c.name.size ≤ 2147483647 ∧ c.value.size ≤ 2147483647
theorem newEnt_P {psl : Option (List ByteArray)} {host defp : ByteArray} {now : Int} {c : PCookie} {e : Ent} {rem : Bool} (h : newEnt psl host defp now c = some (e, rem)) (hc : CkP c) : EntP e := by
  have e0 : (⟨#[]⟩ : ByteArray).size ≤ 2147483647 := by decide
  obtain ⟨h1, h2, h3⟩ := hc
  unfold newEnt at h
  cases hd : domTy psl host c.domain with
  | none => rw [hd] at h; cases h
  | some p =>
    rw [hd] at h
    have h' := Option.some.inj h
    simp only [] at h'
    split at h'
    · cases h'; exact ⟨h1, h2, e0⟩
    · split at h'
      · cases h'; exact ⟨h1, h2, h3⟩
      · split at h'
        · cases h'; exact ⟨h1, h2, h3⟩
        · split at h'
          · cases h'; exact ⟨h1, h2, h3⟩
          · cases h'; exact ⟨h1, h2, e0⟩
theorem setOne_P {S : ByteArray → Option Ent} {n : Nat} {now : Int} {r : Option (Ent × Bool)} (hS : ∀ id e, S id = some e → EntP e) (hr : ∀ e rem, r = some (e, rem) → EntP e) : ∀ id e, (setOne now r (S, n)).1 id = some e → EntP e := by
  match r with
  | none => exact hS
  | some (x, true) =>
    intro id e he
    have : (setOne now (some (x, true)) (S, n)).1 = updS S (entId x) none := rfl
    rw [this] at he
    unfold updS at he
    split at he
    · cases he
    · exact hS id e he
  | some (x, false) =>
    have key : ∃ c q, (setOne now (some (x, false)) (S, n)).1 = updS S (entId x) (some { x with cre := c, seq := q }) := by
      simp only [setOne]
      split
      · exact ⟨_, _, rfl⟩
      · exact ⟨_, _, rfl⟩
    obtain ⟨c, q, e1⟩ := key
    intro id e he
    rw [e1] at he
    unfold updS at he
    split at he
    · cases he
      exact hr x false rfl
    · exact hS id e he
theorem setList_P {psl : Option (List ByteArray)} {host defp : ByteArray} {now : Int} : ∀ (cs : List PCookie) (S : ByteArray → Option Ent) (n : Nat), (∀ id e, S id = some e → EntP e) → (∀ c ∈ cs, CkP c) → ∀ id e, (setList psl host defp now cs (S, n)).1 id = some e → EntP e
  | [], _, _, h, _ => h
  | c :: r, S, n, h, hc => by
    have h1 := setOne_P (n := n) (now := now) (r := newEnt psl host defp now c) h (fun e rem he => newEnt_P he (hc c List.mem_cons_self))
    exact setList_P r (setOne now (newEnt psl host defp now c) (S, n)).1 (setOne now (newEnt psl host defp now c) (S, n)).2 h1 fun x hx => hc x (List.mem_cons_of_mem _ hx)
theorem names_run {psl : Option (List ByteArray)} {J : ByteArray → ByteArray → Option Ent} {n : Nat} {ss : List PStep} {o : List (List Ent)} (h : RunRel psl J n ss o) (hJ : ∀ k id e, J k id = some e → EntP e) (hs : ∀ s ∈ ss, ∀ c ∈ s.cookies, CkP c) : ∀ L ∈ o, ∀ e ∈ L, EntP e := by
  induction h with
  | nil J n => intro L hL; cases hL
  | @set J n s r o h0 hr ih =>
    refine ih (fun k id e he => ?_) fun x hx => hs x (List.mem_cons_of_mem _ hx)
    unfold setJ at he
    split at he
    · exact hJ k id e he
    · by_cases hk : k = keyOf psl (hostOf s)
      · rw [updJ, if_pos hk] at he
        exact setList_P s.cookies _ _ (hJ _) (hs s List.mem_cons_self) id e he
      · rw [updJ_ne _ _ hk] at he
        exact hJ k id e he
  | @ask J n s r L0 o h0 hL0 hr ih =>
    intro L hL
    rcases List.mem_cons.1 hL with rfl | hL
    · intro e he
      cases hw : isWeb s.scheme
      · unfold AskL at hL0
        rw [if_pos hw] at hL0
        rw [hL0] at he; cases he
      · obtain ⟨id, h1, _⟩ := ((hL0.web hw).mem e).1 he
        exact hJ _ _ _ h1
    · refine ih (fun k id e he => ?_) (fun x hx => hs x (List.mem_cons_of_mem _ hx)) L hL
      unfold askJ at he
      split at he
      · exact hJ k id e he
      · by_cases hk : k = keyOf psl (hostOf s)
        · rw [updJ, if_pos hk] at he
          exact hJ _ _ _ (purge_some.1 he).1
        · rw [updJ_ne _ _ hk] at he
          exact hJ k id e he
theorem word_noeq : ∀ {l : List UInt8}, allWord l = true → ∀ z ∈ l, z ≠ 61
  | [], _, z, hz => by cases hz
  | x :: r, h, z, hz => by
    rw [allWord] at h
    split at h
    · rename_i hx
      rcases List.mem_cons.1 hz with rfl | hz
      · intro e
        subst e
        exact absurd hx (by decide)
      · exact word_noeq h z hz
    · cases h
theorem good_ck {listed : Bool} {s : PStep} (h : GoodStep listed s) : ∀ c ∈ s.cookies, CkP c := fun c hc => by
  have h1 := h.cks c hc
  unfold ckOK at h1
  simp only [Bool.and_eq_true] at h1
  obtain ⟨_, _, _, h2, h3, _⟩ := h.ok.cks c hc
  exact ⟨word_noeq h1.1.1.1.1.1.2, h2, h3⟩
set_option maxRecDepth 100000 in
set_option maxHeartbeats 1600000 in
theorem askingDel_any (s : PStep) (a : Option Addr) (n c : Nat) (w : World) : Calls Tryz.prog 11 #[.agg (stCells s (.slice a n c)).toArray] w fun r w' => r = .returned (.bool (!s.set)) ∧ Below w.heap.size w w' := by
  unfold stCells
  go_enter Tryz.func11, Tryz.ntmps11
  go_wp2
  go_returns
  exact ⟨rfl, (Below.refl _ _).alloc (Nat.le_refl _) _⟩
theorem own_cap {w : World} {base size n cap : Nat} {e : TypeId} {a : Addr} {xs : List Value} (h : w.ownsRow base e size (.slice (some a) n cap) n xs) : n ≤ cap := by
  obtain ⟨_, ⟨hu, _⟩ | ⟨g, cap', cur, hu, _, _, hle, _⟩⟩ := h
  · cases hu
  · injection hu with _ _ e3
    omega
/-- The same as step_app, and that the list is no longer than its room. -/
theorem step_app2 {ops : Array Oper} {o : Oper} {a : Act} {K : Act → World → Prop} {Q : Exit → Act → World → Prop} {E : Prop} (s x : Operand)
    (ho : o.op = .call { callee := .builtin .append, args := #[s, x], argTypes := #[23, 23] }) (hw : Region.wanted o (yielded ops a.tmps) = true)
    {A X w W : World} {u : Value} {L M : List (PStep × Value)} {ss : List PStep} {b1 c : Nat} (hs : a.eval s = u) (hx : a.eval x = .slice (some ⟨b1, 0, none⟩) M.length c)
    (e : Same w W) (hown : OwnS w X.heap.size u L) (hL : L.map (·.1) = ss) (hn : L.length ≤ 2147483647) (hm0 : 0 < M.length) (hm : M.length ≤ 2) (BC : Below X.heap.size X w) (BB : Below A.heap.size A w) (hAX : A.heap.size ≤ X.heap.size)
    (hck : ∀ p ∈ L, CookiesAt X X.heap.size p.2 p.1.cookies) (hM1 : ∀ v ∈ M.flatMap stC, v.oneCell' = true) (hrow : RowAt W b1 0 (M.flatMap stC)) (hMck : ∀ w3, W.grownBy w3 u.ownBlock → ∀ p ∈ M, CookiesAt w3 w3.heap.size p.2 p.1.cookies)
    (h : ∀ g cap w3, AppPost A W w3 u (.slice (some ⟨g, 0, none⟩) (L.length + M.length) cap) (ss ++ M.map (·.1)) → L.length + M.length ≤ cap → K (a.put o.dst (.slice (some ⟨g, 0, none⟩) (L.length + M.length) cap)) w3) :
    if Region.wanted o (yielded ops a.tmps) = true then Oper.wp Tryz.prog o a W K Q else E := by
  rw [if_pos hw]
  obtain ⟨i0, hi, hz0, hz1, hz2⟩ := info_parts Tryz.infoStep
  have hown1 := own_on hown e.below
  have hX := BC.trans (e.below.mono BC.size)
  refine wp_append_lies W s x 23 ho X.heap.size 32 i0 _ 6 88 Tryz.underlying23 hi hz0 hz1 hz2 (by rfl) (by decide) u L.length (L.flatMap stC) hs hown1.1 ⟨b1, 0, none⟩ M.length c (M.flatMap stC) hx (stC_len M) (row_news hrow) hM1 hm0
    (by unfold maxLen; omega) (by omega) hown1.2 _ rfl ?_
  intro g cap w3 hown3 hgrow _ _
  have HX := app_end (A := A) hL hown1 hown3 hgrow hX (BB.trans (e.below.mono BB.size)) hAX hck (hMck w3 hgrow)
  exact h g cap w3 ⟨HX.1, HX.2, hgrow⟩ (own_cap hown3)
set_option maxRecDepth 100000 in
set_option maxHeartbeats 6400000 in
theorem FnAsking_any (listed : Bool) (v : Value) (sufs : List ByteArray) (vs : Value) (ss : List PStep) (sc ho pa : ByteArray) (t : Int) (w : World) (hB : Base w) (hS : StrsAt w w.heap.size v sufs) (hl : sufs.length ≤ 9223372036854775807) (hsz : ∀ x ∈ sufs, x.size ≤ 9223372036854775807)
    (hT : StepsAt w w.heap.size vs ss) (hok : SliceOK vs) (hls : ss.length ≤ 9223372036854775807) (hw1 : ∀ x ∈ ss, StLen x) (hw2 : ∀ s ∈ ss, I64 s.tm ∧ ∀ c ∈ s.cookies, I64 c.maxAge ∧ I64 c.expires)
    (h1 : sc.size ≤ 9223372036854775807) (h2 : ho.size ≤ 9223372036854775807) (h3 : pa.size ≤ 9223372036854775807) (ht : I64 t) :
    Calls Tryz.prog 3 #[.bool listed, v, vs, .agg #[.string sc, .string ho, .string pa], .int .i64 t] w fun r w' => r = .returned (.bool true) ∧ Below w.heap.size w w' := by
  have HF4 := fun W => zzFits4_any sc ho pa W h1 h2 h3
  have HW2 := Lib.hid hw2
  obtain ⟨W, hW⟩ : ∃ W, w.alloc (.cells #[.string sc, .string ho, .string pa] 25) = W := ⟨_, rfl⟩
  have hal : Below w.heap.size w W := by rw [← hW]; exact (Below.refl _ _).alloc (Nat.le_refl _) _
  have hA : RowAt W w.heap.size 0 [Value.string sc, .string ho, .string pa] := by rw [← hW]; exact RowAt.new w [Value.string sc, .string ho, .string pa] 25
  have hszW : W.heap.size = w.heap.size + 1 := by rw [← hW]; simp
  have hS1 : StrsAt W w.heap.size v sufs := hS.below hal (Nat.le_refl _)
  have hT1 := hT.below hal (Nat.le_refl _)
  have HF1 := zzFits1_any v sufs w.heap.size W hS1 hl hsz
  have HF2 := fun X (hh : StepsAt X w.heap.size vs ss) (hle : w.heap.size ≤ X.heap.size) => zzFits2_any vs ss w.heap.size X hh hle hls hw1
  obtain ⟨a0, a1, a2⟩ := row3 hA
  clear hw1 hw2
  go_enter Tryz.func3, Tryz.ntmps3
  go_upto_region 1 with (fail)
  try rw [hW]
  clear hW
  go_cut [26] (fun v26 wx => v26 = .bool (!(fits1 sufs && fits2 ss && fits4 sc ho pa)) ∧ Below W.heap.size W wx)
  case first =>
    as_aux_lemma =>
    cases hf1 : fits1 sufs
    · have H1 := Lib.hid hf1
      clear hf1
      go_wp2_with fail
      refine HF1.mono ?_
      rintro r w1 ⟨rfl, rfl⟩
      rw [H1.out]
      go_wp2
      go_meet
      exact ⟨by rw [H1.out]; rfl, Below.refl _ _⟩
    · have H1 := Lib.hid hf1
      clear hf1
      cases hf2 : fits2 ss
      · have H2 := Lib.hid hf2
        clear hf2
        go_wp2_with fail
        refine HF1.mono ?_
        rintro r w1 ⟨rfl, rfl⟩
        rw [H1.out]
        go_wp2_with fail
        refine (HF2 _ hT1 (by omega)).mono ?_
        rintro r w1 ⟨rfl, hb1⟩
        rw [H2.out]
        go_wp2
        go_meet
        exact ⟨by rw [H1.out, H2.out]; rfl, hb1⟩
      · have H2 := Lib.hid hf2
        clear hf2
        go_wp2_with fail
        refine HF1.mono ?_
        rintro r w1 ⟨rfl, rfl⟩
        rw [H1.out]
        go_wp2_with fail
        refine (HF2 _ hT1 (by omega)).mono ?_
        rintro r w1 ⟨rfl, hb1⟩
        rw [H2.out]
        obtain ⟨a0, a1, a2⟩ := row3 (hA.below hb1 (by omega))
        go_wp2_with fail
        refine (HF4 _).mono ?_
        rintro r w2 ⟨rfl, hb2⟩
        go_wp2
        go_meet
        exact ⟨by rw [H1.out, H2.out]; rfl, hb1.trans (hb2.mono hb1.size)⟩
  case rest =>
    obtain ⟨rfl, hb1⟩ := hcut
    obtain ⟨fb, hfb⟩ : ∃ fb, (fits1 sufs && fits2 ss && fits4 sc ho pa) = fb := ⟨_, rfl⟩
    rw [hfb]
    have HFB := Lib.hid hfb
    have hs1 := hb1.size
    clear hfb HF4 HF1 HF2 a0 a1 a2
    have hbw := hal.trans (hb1.mono (by omega))
    generalize wc = W1 at *
    cases fb
    · as_aux_lemma =>
      go_wp2
      go_returns
      exact ⟨rfl, hbw⟩
    · have hA1 := hA.below hb1 (by omega)
      have hS2 := hS1.below hb1 (by omega)
      have hT2 := hT1.below hb1 (by omega)
      have hf : (fits1 sufs = true ∧ fits2 ss = true) ∧ fits4 sc ho pa = true := by have := HFB.out; simpa using this
      have hsl := fits1_use hf.1.1
      obtain ⟨hsn, hfit⟩ := fits2_use hf.1.2 HW2.out
      have hfits : ∀ s ∈ ss ++ [⟨false, t, sc, ho, pa, []⟩], StFit s := fun s hs => by
        rcases List.mem_append.1 hs with h | h
        · exact hfit s h
        · rw [List.mem_singleton] at h
          subst h
          exact fit_ask hf.2 ht
      have hho := (fits4_use hf.2).2.1
      have hB1 := hB.below hbw
      clear HFB hf HW2 hS hT hS1 hT1 hA hal hb1 hfit
      have HFIT := Lib.hid hfits
      clear hfits
      have hwB : w.heap.size ≤ W1.heap.size := by omega
      have hltA : w.heap.size < W1.heap.size := by omega
      clear hs1 hszW
      have hCL := fun (X : World) (bb : Below W1.heap.size W1 X) => cloneStep_any vs ss X ((hT2.below bb hwB).up (Nat.le_trans hwB bb.size)) hok hsn
      go_upto_region 3 with (fail)
      go_cut [2] (fun v2 wx => ∃ g cap, v2 = .slice (some ⟨g, 0, none⟩) (ss.length + 1) cap ∧ ss.length + 1 ≤ cap ∧ StepsAt wx wx.heap.size (.slice (some ⟨g, 0, none⟩) (ss.length + 1) cap) (ss ++ [⟨false, t, sc, ho, pa, []⟩]) ∧ Below W1.heap.size W1 wx)
      case first =>
        have HASK := fun W => ask_any t sc ho pa W
        unfold askVal at HASK
        have BB := Below.refl W1.heap.size W1
        obtain ⟨a0, a1, a2⟩ := row3 hA1
        simp only [Nat.zero_add] at a1 a2
        clear hS2 HFIT hsl hho hB1 hbw
        go_region_held3 (fun w' => w'.cell? ⟨w.heap.size, 0, none⟩ = some (.string sc) ∧ w'.cell? ⟨w.heap.size, 1, none⟩ = some (.string ho) ∧ w'.cell? ⟨w.heap.size, 2, none⟩ = some (.string pa)) (go_keep)
          (first
            | (go_at_call 8; refine (HASK _).mono ?_; rintro r w2 ⟨rfl, hb4⟩; have GO := below_on BB (by first | exact ⟨rfl, rfl, rfl, Or.inl rfl⟩ | exact ⟨rfl, rfl, rfl, Or.inr ⟨_, rfl⟩⟩) hb4; clear hb4; (try replace hown := own_on hown GO); (try replace BC := bel_on BC GO); replace BB := bel_on BB GO; clear GO; clear a0 a1 a2; obtain ⟨a0, a1, a2⟩ := row3 (hA1.below BB hltA); simp only [Nat.zero_add] at a1 a2)
            | (go_at_call 7; refine (hCL _ (below_now BB (by first | exact ⟨rfl, rfl, rfl, Or.inl rfl⟩ | exact ⟨rfl, rfl, rfl, Or.inr ⟨_, rfl⟩⟩))).mono ?_; rintro r w2 hcl; have hb4 := clone_bel hcl; have GO := below_on BB (by first | exact ⟨rfl, rfl, rfl, Or.inl rfl⟩ | exact ⟨rfl, rfl, rfl, Or.inr ⟨_, rfl⟩⟩) hb4; (try have RB := laid_on (us := [.bool false, .int .i64 t, .string sc, .string ho, .string pa, .slice none 0 0]) (T := 32) (by rfl) hb4); clear hb4; obtain ⟨X, u, L, rfl, hL, hown, hck, BC, hAX⟩ := clone_on BB (by first | exact ⟨rfl, rfl, rfl, Or.inl rfl⟩ | exact ⟨rfl, rfl, rfl, Or.inr ⟨_, rfl⟩⟩) hcl; clear hcl; have hLl := clone_len hL hsn; replace BB := bel_on BB GO; clear GO; clear a0 a1 a2; obtain ⟨a0, a1, a2⟩ := row3 (hA1.below BB hltA); simp only [Nat.zero_add] at a1 a2)
            | (refine step_app2 (M := [askS t sc ho pa]) _ _ (by rfl) (by rfl) (by rfl) (by rfl) (by first | exact ⟨rfl, rfl, rfl, Or.inl rfl⟩ | exact ⟨rfl, rfl, rfl, Or.inr ⟨_, rfl⟩⟩) hown hL hLl (by simp) (by simp) BC BB hAX hck (ask_news t sc ho pa) (by first | exact (row_now RB (by first | exact ⟨rfl, rfl, rfl, Or.inl rfl⟩ | exact ⟨rfl, rfl, rfl, Or.inr ⟨_, rfl⟩⟩)).1 | exact (laid_now (us := [.bool false, .int .i64 t, .string sc, .string ho, .string pa, .slice none 0 0]) (T := 32) (by rfl)).1) (fun _ _ => ask_ck) ?_; intro g cap w3 HX hcp; have hlx := congrArg List.length hL; rw [List.length_map] at hlx; have HST := HX.st; rw [hlx] at HST hcp ⊢; replace BB := HX.bel; clear hlx HX; clear a0 a1 a2; obtain ⟨a0, a1, a2⟩ := row3 (hA1.below BB hltA); simp only [Nat.zero_add] at a1 a2)
            | fail "no arm")
        all_goals
          go_wp2
          go_meet
          exact ⟨g, cap, rfl, hcp, HST, BB⟩
      case rest =>
        obtain ⟨gm, cm, rfl, hcm, hst, hb2⟩ := hcut
        have hA2 := hA1.below hb2 hltA
        have hS3 : StrsAt wc w.heap.size v sufs := hS2.below hb2 hwB
        have hT3 := hT2.below hb2 hwB
        have hbw2 := hbw.trans (hb2.mono hwB)
        have hB2 := hB.below hbw2
        have hsz2 := hb2.size
        clear hb2 hS2 hT2 hA1 hB1 hbw hCL
        generalize wc = W2 at *
        have hltA2 : w.heap.size < W2.heap.size := by omega
        have hwB2 : w.heap.size ≤ W2.heap.size := by omega
        clear hsz2 hltA hwB
        obtain ⟨all, hall⟩ : ∃ all, ss ++ [⟨false, t, sc, ho, pa, []⟩] = all := ⟨_, rfl⟩
        have HALL := Lib.hid hall
        have hal : all.length = ss.length + 1 := by rw [← hall, List.length_append]; rfl
        rw [hall] at hst HFIT
        clear hall
        have HVAL := Valid_any listed v (.slice (some ⟨gm, 0, none⟩) (ss.length + 1) cm) sufs all W2.heap.size W2 (strs_at hS3 hwB2 (Below.refl _ _)) hst (Nat.le_refl _) hsl.1 hsl.2 (by omega) HFIT.out
        obtain ⟨vb, hvb⟩ : ∃ vb, validB listed sufs all = vb := ⟨_, rfl⟩
        have HVB := Lib.hid hvb
        rw [hvb] at HVAL
        clear hvb hal
        cases vb
        · as_aux_lemma =>
          go_wp2_with fail
          refine HVAL.mono ?_
          rintro r w3 ⟨rfl, hb3⟩
          go_wp2
          go_returns
          exact ⟨rfl, hbw2.trans (hb3.mono hwB2)⟩
        · go_wp2_with fail
          refine HVAL.mono ?_
          rintro r w3 ⟨rfl, hb3⟩
          have hA3 := hA2.below hb3 hltA2
          have hS4 : StrsAt w3 w.heap.size v sufs := hS3.below hb3 hwB2
          have hT4 := hT3.below hb3 hwB2
          have hst3 := steps_on hst hb3
          have hbw3 := hbw2.trans (hb3.mono hwB2)
          have hB3 := hB.below hbw3
          have hltA3 : w.heap.size < w3.heap.size := Nat.lt_of_lt_of_le hltA2 hb3.size
          have hwB3 : w.heap.size ≤ w3.heap.size := Nat.le_of_lt hltA3
          clear HVAL hb3 hA2 hS3 hT3 hst hbw2 hB2 hltA2 hwB2
          generalize w3 = W3 at *
          have hgood := valid_good HVB.out HFIT.out
          have hmem : ∀ s ∈ ss, s ∈ all := fun s hs => by rw [← HALL.out]; exact List.mem_append_left _ hs
          have hask : (⟨false, t, sc, ho, pa, []⟩ : PStep) ∈ all := by rw [← HALL.out]; simp
          have hho2 : ho.size ≤ 4294967296 := Nat.le_trans hho (by decide)
          have hfb : ss.filter (·.set) = ss.filter fun s => !(!s.set) := by congr 1; funext s; simp
          obtain ⟨near, hnear⟩ : ∃ near, ss.filter (·.set) = near := ⟨_, rfl⟩
          have HNEAR := Lib.hid hnear
          have HFB := Lib.hid hfb
          have hnin : ∀ s ∈ near, s ∈ ss := fun s hs => by rw [← hnear] at hs; exact (List.mem_filter.1 hs).1
          have hnl : near.length ≤ ss.length := by rw [← hnear]; exact List.length_filter_le _ _
          have hl1 : all.length = ss.length + 1 := by rw [← HALL.out, List.length_append]; rfl
          have hokn : ∀ s ∈ near ++ [⟨false, t, sc, ho, pa, []⟩], StepOK s ∧ s.cookies.length ≤ 64 := fun s hs => by
            rcases List.mem_append.1 hs with h | h
            · exact ⟨(hgood.1 s (hmem s (hnin s h))).ok, (hgood.1 s (hmem s (hnin s h))).few⟩
            · rw [List.mem_singleton] at h
              subst h
              exact ⟨(hgood.1 _ hask).ok, (hgood.1 _ hask).few⟩
          have hnn : (near ++ [(⟨false, t, sc, ho, pa, []⟩ : PStep)]).length ≤ 64 := by
            have := hgood.2.1
            rw [List.length_append, List.length_singleton]; omega
          have HL1 := fun (X : World) (bb : Below W3.heap.size W3 X) => last_any listed v (.slice (some ⟨gm, 0, none⟩) (ss.length + 1) cm) sufs all X (run_args (strs_at hS4 hwB3 bb) (steps_on hst3 bb) hsl HVB.out HFIT.out) (hB3.below bb)
          have HL2 := fun (X : World) (u : Value) (st : StepsAt X X.heap.size u (near ++ [⟨false, t, sc, ho, pa, []⟩])) (bb : Below W3.heap.size W3 X) =>
            last_any listed v u sufs (near ++ [⟨false, t, sc, ho, pa, []⟩]) X ⟨strs_at hS4 hwB3 bb, st, hsl, fun s hs => (hokn s hs).1, hnn, fun s hs => (hokn s hs).2⟩ (hB3.below bb)
          have HLAW : ∀ o1 o2, RunRel (pslOf listed sufs) noJar 0 all o1 → RunRel (pslOf listed sufs) noJar 0 (near ++ [⟨false, t, sc, ho, pa, []⟩]) o2 → ((pairsOf o1).getLastD []).Perm ((pairsOf o2).getLastD []) := fun o1 o2 r1 r2 => by
            have htm := timed_of all 1 hgood.2.2.2
            rw [← HALL.out] at r1 htm
            rw [← HNEAR.out] at r2
            obtain ⟨p1, p2, L1, L2, rfl, rfl, e⟩ := law_asking rfl htm r1 r2
            rw [pairs_end, pairs_end]
            exact e
          have HLEN := fun o1 (r1 : RunRel (pslOf listed sufs) noJar 0 all o1) => last_len (run_len r1 (fun s hs => ⟨(hgood.1 s hs).ok, (hgood.1 s hs).few⟩) hgood.2.1)
          have HNM : ∀ o1, RunRel (pslOf listed sufs) noJar 0 all o1 → ∀ p ∈ (pairsOf o1).getLastD [], NoEq p ∧ p.1.size ≤ 2147483647 ∧ p.2.size ≤ 2147483647 := fun o1 r1 p hp => by
            rcases List.eq_nil_or_concat o1 with rfl | ⟨q, L, rfl⟩
            · simp [pairsOf] at hp
            · rw [List.concat_eq_append] at r1
              rw [List.concat_eq_append, pairs_end] at hp
              obtain ⟨e, he, rfl⟩ := List.mem_map.1 hp
              exact names_run r1 (fun k id e h => by cases h) (fun s hs => good_ck (hgood.1 s hs)) L (by simp) e he
          have HLAWH := Lib.hid HLAW
          have HLENH := Lib.hid HLEN
          have HNMH := Lib.hid HNM
          have hpre : StepsAt W3 W3.heap.size (.slice (some ⟨gm, 0, none⟩) ss.length cm) ss := by
            have h := hst3.take ss.length (by omega)
            rw [← HALL.out, List.take_left] at h
            exact h
          have hCL := cloneStep_any (.slice (some ⟨gm, 0, none⟩) ss.length cm) ss W3 hpre (Or.inr ⟨_, _, _, rfl, by omega⟩) hsn
          have hi1 : IntKind.i64.wrap (((ss.length + 1 : Nat) : Int) - 1) = (ss.length : Int) := by rw [IntWalk.i64_in _ (by omega)]; omega
          have hi2 : (ss.length : Int) ≤ (cm : Int) := by omega
          clear hgood hmem hask hnear hnin hnl hl1 hokn hnn HLAW HLEN HNM hho hT4 hst3 hS4 hpre hfb
          go_upto_region 6 with (fail)
          go_wp2_with fail
          refine hCL.mono ?_
          rintro r w4 hcl
          obtain ⟨u, L, rfl, hL, hown, hck, hb4⟩ := clone_own hcl
          have hLl := clone_len hL hsn
          have hDEL := delStep_own W3 (fun s => !s.set) 11 #[] (enters_of Tryz.func11 (by kernel_rfl) rfl) w4 u L hb4 hown hLl
            (fun W p hp hb => by
              obtain ⟨ao, b, off, c, h1, _⟩ := (hck p hp).ex
              have h2 := askingDel_any p.1 ao p.1.cookies.length c W
              rw [← h1] at h2
              exact h2) hck
          clear hcl hCL hown hb4 hi1 hi2
          go_wp2_with fail
          refine hDEL.mono ?_
          rintro r w5 ⟨un, rfl, hown, hb5⟩
          obtain ⟨M, hM⟩ : ∃ M, L.filter (fun p => !(!p.1.set)) = M := ⟨_, rfl⟩
          rw [hM] at hown
          have hMn : M.map (·.1) = near := by
            rw [← HNEAR.out, HFB.out, ← hM, ← hL, List.filter_map]
            rfl
          have hMck : ∀ p ∈ M, CookiesAt W3 W3.heap.size p.2 p.1.cookies := fun p hp => hck p (by rw [← hM] at hp; exact (List.mem_filter.1 hp).1)
          have hMl : M.length ≤ 2147483647 := by
            have : M.length ≤ L.length := by rw [← hM]; exact List.length_filter_le _ _
            omega
          clear hDEL hM hck hL hLl
          have BB := hb5
          clear hb5
          go_upto_region 7 with (fail)
          have HASK := fun W => ask_any t sc ho pa W
          unfold askVal at HASK
          obtain ⟨a0, a1, a2⟩ := row3 (hA3.below BB hltA3)
          simp only [Nat.zero_add] at a1 a2
          go_region_held3 (fun w' => w'.cell? ⟨w.heap.size, 0, none⟩ = some (.string sc) ∧ w'.cell? ⟨w.heap.size, 1, none⟩ = some (.string ho) ∧ w'.cell? ⟨w.heap.size, 2, none⟩ = some (.string pa)) (go_keep)
            (first
              | (go_at_call 8; refine (HASK _).mono ?_; rintro r w2 ⟨rfl, hb4⟩; have GO := below_on BB (by first | exact ⟨rfl, rfl, rfl, Or.inl rfl⟩ | exact ⟨rfl, rfl, rfl, Or.inr ⟨_, rfl⟩⟩) hb4; clear hb4; replace hown := own_on hown GO; (try replace P1 := P1.below GO); replace BB := bel_on BB GO; clear GO; clear a0 a1 a2; obtain ⟨a0, a1, a2⟩ := row3 (hA3.below BB hltA3); simp only [Nat.zero_add] at a1 a2)
              | (have g1 := ST; clear g1; go_at_call 12; refine (HL2 _ _ (steps_on ST (Same.below (by first | exact ⟨rfl, rfl, rfl, Or.inl rfl⟩ | exact ⟨rfl, rfl, rfl, Or.inr ⟨_, rfl⟩⟩))) (below_now BB (by first | exact ⟨rfl, rfl, rfl, Or.inl rfl⟩ | exact ⟨rfl, rfl, rfl, Or.inr ⟨_, rfl⟩⟩))).mono ?_; rintro r w2 ⟨u2, o2, rfl, hrel2, P2, hb4⟩; have GO := below_on BB (by first | exact ⟨rfl, rfl, rfl, Or.inl rfl⟩ | exact ⟨rfl, rfl, rfl, Or.inr ⟨_, rfl⟩⟩) hb4; clear hb4; (try replace P1 := P1.below GO); replace BB := bel_on BB GO; clear GO ST; clear a0 a1 a2; obtain ⟨a0, a1, a2⟩ := row3 (hA3.below BB hltA3); simp only [Nat.zero_add] at a1 a2)
              | (go_at_call 12; refine (HL1 _ (below_now BB (by first | exact ⟨rfl, rfl, rfl, Or.inl rfl⟩ | exact ⟨rfl, rfl, rfl, Or.inr ⟨_, rfl⟩⟩))).mono ?_; rintro r w2 ⟨u1, o1, rfl, hrel1, hp1, hb4⟩; (first | have P1 := pairs_apart hp1 hown (by first | exact ⟨rfl, rfl, rfl, Or.inl rfl⟩ | exact ⟨rfl, rfl, rfl, Or.inr ⟨_, rfl⟩⟩) | have P1 := hp1);  have GO := below_on BB (by first | exact ⟨rfl, rfl, rfl, Or.inl rfl⟩ | exact ⟨rfl, rfl, rfl, Or.inr ⟨_, rfl⟩⟩) hb4; (first | replace RB := row_on RB GO | have RB := laid_on (us := [.bool false, .int .i64 t, .string sc, .string ho, .string pa, .slice none 0 0]) (T := 32) (by rfl) hb4 | skip); clear hb4 hp1; (try replace hown := own_on hown GO); (try replace ST := steps_on ST GO); (try replace P2 := P2.below GO); replace BB := bel_on BB GO; clear GO; clear a0 a1 a2; obtain ⟨a0, a1, a2⟩ := row3 (hA3.below BB hltA3); simp only [Nat.zero_add] at a1 a2)
              | (refine step_app (M := [askS t sc ho pa]) _ _ (by rfl) (by rfl) (by rfl) (by rfl) (by first | exact ⟨rfl, rfl, rfl, Or.inl rfl⟩ | exact ⟨rfl, rfl, rfl, Or.inr ⟨_, rfl⟩⟩) hown hMn hMl (by simp) (by simp) BB BB (Nat.le_refl _) hMck (ask_news t sc ho pa) (by first | exact (row_now RB (by first | exact ⟨rfl, rfl, rfl, Or.inl rfl⟩ | exact ⟨rfl, rfl, rfl, Or.inr ⟨_, rfl⟩⟩)).1 | exact (laid_now (us := [.bool false, .int .i64 t, .string sc, .string ho, .string pa, .slice none 0 0]) (T := 32) (by rfl)).1) (fun _ _ => ask_ck) ?_; intro g cap w3 HX; (try replace P1 := pairs_app P1 (by first | exact ⟨rfl, rfl, rfl, Or.inl rfl⟩ | exact ⟨rfl, rfl, rfl, Or.inr ⟨_, rfl⟩⟩) HX.grown); have ST := HX.st; replace BB := HX.bel; clear HX hown; clear a0 a1 a2; obtain ⟨a0, a1, a2⟩ := row3 (hA3.below BB hltA3); simp only [Nat.zero_add] at a1 a2)
              | fail "no arm")
          all_goals
            have hlen := HLENH.out _ hrel1
            have hnm := HNMH.out _ hrel1
            have HSO := sorted_any u1 u2 _ _ _ (P1.below (Below.refl _ _)) P2 hlen (HLAWH.out _ _ hrel1 hrel2) (fun p hp => (hnm p hp).2) (fun p hp => (hnm p hp).1)
            clear a0 a1 a2 HASK HL1 HL2 P1 P2 hrel1 hrel2 hlen hnm
            go_wp2_with fail
            refine HSO.mono ?_
            rintro r w8 ⟨rfl, hb8⟩
            have BB8 := bel_on BB hb8
            have HAL := alive_any w8 (hB3.below BB8)
            clear HSO
            go_wp2_with fail
            refine HAL.mono ?_
            rintro r w9 ⟨rfl, hb9⟩
            go_wp2
            go_returns
            exact ⟨rfl, hbw3.trans ((bel_on BB8 hb9).mono hwB3)⟩
end Go.Proofs.YtcofblepdfjhjaaGreatDoor
