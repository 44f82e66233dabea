/- The sort of the entries that are sent. -/
import Derived.Test.YtcofblepdfjhjaaGreatDoorAsk1
import Derived.Test.YtcofblepdfjhjaaGreatDoorShelf
import Derived.Shelf.SlSortCmp.NoneTotal
import Derived.Laws.OwnMore
namespace Go.Proofs.YtcofblepdfjhjaaGreatDoor
open Go.RowKit Go.Sort Go.Lib
instance : Inhabited Ent := ⟨⟨⟨#[]⟩, ⟨#[]⟩, ⟨#[]⟩, ⟨#[]⟩, false, false, false, 0, 0, 0⟩⟩
def encE (now : Int) (e : Ent) : List Value := entCells e now
theorem encE_len (now : Int) (e : Ent) : (encE now e).length = 16 := rfl
theorem encE_one (now : Int) (e : Ent) : ∀ v ∈ encE now e, v.oneCell' = true := by
  intro v hv
  simp [encE, entCells] at hv
  rcases hv with rfl | rfl | rfl | rfl | rfl | rfl | rfl | rfl | rfl | rfl | rfl | rfl | rfl | rfl | rfl | rfl <;> rfl
theorem flat_len (now : Int) : ∀ L : List Ent, (L.flatMap (encE now)).length = L.length * 16
  | [] => rfl
  | x :: r => by rw [List.flatMap_cons, List.length_append, flat_len now r, encE_len, List.length_cons]; omega
theorem flat_get (now : Int) : ∀ (L : List Ent) (i c : Nat), c < 16 → i < L.length → (L.flatMap (encE now))[i * 16 + c]? = (encE now (L[i]!))[c]?
  | [], i, c, _, h => absurd h (by simp)
  | x :: r, 0, c, hc, _ => by
    rw [List.flatMap_cons, List.getElem?_append_left (by rw [encE_len]; omega)]
    simp
  | x :: r, i + 1, c, hc, h => by
    rw [List.flatMap_cons, List.getElem?_append_right (by rw [encE_len]; omega), encE_len]
    have e : (i + 1) * 16 + c - 16 = i * 16 + c := by omega
    rw [e, flat_get now r i c hc (by simpa using h)]
    simp
theorem chg_sort {now : Int} (w : World) (blk n : Nat) (d : Array Ent) (os : Array Obj) : Chg (· = blk) w (sortWorldK (encE now) 16 w blk 0 n d os) := by
  unfold sortWorldK
  refine ⟨rfl, rfl, rfl, ?_, fun k hk hn => ?_⟩
  · rw [size_grow, size_putRowK]; exact Nat.le_add_right _ _
  · have hs : k < (putRowK (encE now) 16 (Sort.ahead w n) blk 0 d).heap.size := by rw [size_putRowK]; exact hk
    rw [grow, Array.getElem?_append_left hs]
    simp only [putRowK, putRow, mapBlock]
    rw [Array.getElem?_modify, if_neg (fun e => hn e.symm)]
    rfl
theorem holds_own {w : World} {base : Nat} {v : Value} {L : List Ent} {now : Int} (h : w.ownsRow base 109 16 v L.length (L.flatMap (encE now))) (hne : L ≠ []) :
    ∃ g cap, v = .slice (some ⟨g, 0, none⟩) L.length cap ∧ base ≤ g ∧ g < w.heap.size ∧ HoldsK (encE now) 16 w g 0 L.toArray := by
  have hc := fun g hg => h.cells (g := g) hg
  obtain ⟨hl, ⟨_, h0⟩ | ⟨g, cap, cur, rfl, hb, hh, h1, h2, h3, h4⟩⟩ := h
  · exact absurd (List.length_eq_zero_iff.1 h0) hne
  · refine ⟨g, cap, rfl, hb, (Array.getElem?_eq_some_iff.1 hh).1, fun j hj => ⟨?_, ?_⟩⟩
    · rw [size_flatK] at hj
      have hj' : j < L.length * 16 := by simpa using hj
      rw [get_flatK _ _ _ _ hj]
      have e1 := flat_get now L (j / 16) (j % 16) (Nat.mod_lt _ (by omega)) (by omega)
      have e2 : j / 16 * 16 + j % 16 = j := by omega
      rw [e2] at e1
      have hlt : j % 16 < (encE now (L[j / 16]!)).length := by rw [encE_len]; exact Nat.mod_lt _ (by omega)
      rw [List.getElem?_eq_getElem hlt] at e1
      have := hc g rfl j _ e1
      have e3 : (L.toArray[j / 16]! : Ent) = L[j / 16]! := by simp
      rw [e3]
      have e4 : (encE now (L[j / 16]!))[j % 16]! = (encE now (L[j / 16]!))[j % 16] := getElem!_pos (encE now (L[j / 16]!)) (j % 16) hlt
      rw [e4]
      rw [Nat.zero_add]
      have e5 : (⟨g, 0, none⟩ : Addr).add j = ⟨g, j, none⟩ := by
        unfold Addr.add
        by_cases hj0 : j = 0
        · subst hj0; simp
        · simp [hj0]
      rw [e5] at this
      exact this
    · simp [World.frozen?, hh]
def CmpPost (L : List Ent) (now : Int) (v : Value) (base : Nat) (w : World) (r : Ending) (w' : World) : Prop :=
  r = .returned (.tuple #[]) ∧ ∃ L' : List Ent, L'.Perm L ∧ L'.Pairwise (fun x y => ltOf cmpE y x = false) ∧ Chg (fun k => v.ownBlock = some k) w w' ∧
    ((∃ g cap, v = .slice (some ⟨g, 0, none⟩) L'.length cap ∧ base ≤ g ∧ g < w'.heap.size ∧ ∀ i e, L'[i]? = some e → RowAt w' g (i * 16) (entCells e now)) ∨ (v = .slice none 0 0 ∧ L' = []))
theorem sort_ents (L : List Ent) (now : Int) (v : Value) (base : Nat) (w : World) (h : w.ownsRow base 109 16 v L.length (L.flatMap (encE now))) (hsz : L.length < 4611686018427387904) :
    Calls Tryz.prog 59 #[v, .func (.func 60) #[] #[]] w (CmpPost L now v base w) := by
  by_cases hne : L = []
  · subst hne
    obtain ⟨_, ⟨rfl, _⟩ | ⟨g, cap, cur, rfl, hb, hh, h1, h2, h3, h4⟩⟩ := h
    · refine (AnyF.slices_SortFunc_none (P := Tryz.prog) (ρ := Tryz.sortEnt_ren) Tryz.sortEnt none 0 (.func (.func 60) #[] #[]) w).mono ?_
      rintro r w' ⟨rfl, rfl⟩
      exact ⟨rfl, [], List.Perm.refl _, List.Pairwise.nil, Chg.refl _ _, Or.inr ⟨rfl, rfl⟩⟩
    · refine (AnyF.slices_SortFunc_none (P := Tryz.prog) (ρ := Tryz.sortEnt_ren) Tryz.sortEnt (some ⟨g, 0, none⟩) cap (.func (.func 60) #[] #[]) w).mono ?_
      rintro r w' ⟨rfl, rfl⟩
      exact ⟨rfl, [], List.Perm.refl _, List.Pairwise.nil, Chg.refl _ _, Or.inl ⟨g, cap, rfl, hb, (Array.getElem?_eq_some_iff.1 hh).1, fun i e he => by simp at he⟩⟩
  · obtain ⟨g, cap, rfl, hb, hg, hH⟩ := holds_own h hne
    have eg : ∀ args w, (callFunc 60 args).run Tryz.prog w = .ok (.enter 60 args) w := enters_of Tryz.func60 (by kernel_rfl) rfl
    have hcmp : CmpLays Tryz.prog 60 #[] (encE now) 16 cmpE g 0 L.toArray.size w := by
      intro m os dk _ x y
      refine (cookiesCmp_any x y now _).mono ?_
      rintro r w' ⟨rfl, os', rfl⟩
      exact ⟨rfl, 0, os', rfl⟩
    have hcon := AnyQ.slices_SortFunc Tryz.sortEnt 16 Tryz.isAgg109 Tryz.sizeOf109 (encE now) (encE_len now) (encE_one now) cmpE cmpE_swo 60 #[] g 0 cap L.toArray w eg hcmp hH hg (by simpa using hsz)
    refine hcon.mono ?_
    rintro r w' ⟨rfl, d', n, os, ⟨p1, _, p3⟩, hs, rfl⟩
    have hH' := holdsK_sortWorldK_c (encE now) 16 w g 0 L.toArray d' n os hH hg p1
    have hsz' : d'.size = L.length := by simpa using p1
    have hperm : d'.toList.Perm L := by
      have e1 : d'.extract 0 L.toArray.size = d' := by rw [← p1]; simp
      have e2 : L.toArray.extract 0 L.toArray.size = L.toArray := by simp
      rw [e1, e2] at p3
      simpa using p3
    refine ⟨rfl, d'.toList, hperm, ?_, (chg_sort w g n d' os).mono (fun i _ e => by subst e; rfl), Or.inl ⟨g, cap, by rw [show d'.toList.length = L.toArray.size from p1]; rfl, hb, ?_, fun i e he => ?_⟩⟩
    · rw [List.pairwise_iff_getElem]
      intro i j hi hj hij
      have hi' : i < d'.size := by simpa using hi
      have hj' : j < d'.size := by simpa using hj
      have := hs i j (Nat.zero_le _) hij (by rw [← p1]; exact hj')
      rw [getElem!_pos d' i hi', getElem!_pos d' j hj'] at this
      simpa using this
    · exact Nat.lt_of_lt_of_le hg (chg_sort w g n d' os).size
    · have hi : i < d'.toList.length := (List.getElem?_eq_some_iff.1 he).1
      have hi' : i < d'.size := by simpa using hi
      have hde : d'[i]! = e := by
        rw [getElem!_pos d' i hi']
        rw [List.getElem?_eq_getElem hi] at he
        simpa using Option.some.inj he
      intro c u hu
      have hc : c < 16 := by have := (List.getElem?_eq_some_iff.1 hu).1; simpa [entCells] using this
      have := (hH'.cell hi' hc).1
      rw [hde] at this
      have e4 : (encE now e)[c]! = u := by
        have hl : c < (encE now e).length := by rw [encE_len]; exact hc
        rw [getElem!_pos (encE now e) c hl]
        rw [show entCells e now = encE now e from rfl, List.getElem?_eq_getElem hl] at hu
        exact Option.some.inj hu
      rw [e4] at this
      simpa using this
end Go.Proofs.YtcofblepdfjhjaaGreatDoor
