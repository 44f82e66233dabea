/- Walks: labels, names, addresses (the reference's functions). -/
import Derived.Test.YtcofblepdfjhjaaGreatDoorW4
import Derived.Test.YtcofblepdfjhjaaGreatDoorPlainC
namespace Go.Proofs.YtcofblepdfjhjaaGreatDoor
open Go.RowKit
/-- Value v is a new list of strings (its block from base on). -/
def StrsNew (base : Nat) (w : World) (v : Value) (ls : List ByteArray) : Prop :=
  ∃ b cap, v = .slice (some ⟨b, 0, none⟩) ls.length cap ∧ base ≤ b ∧ b < w.heap.size ∧ ∀ j s, ls[j]? = some s → w.cell? ⟨b, j, none⟩ = some (.string s)
theorem Tryz.infoStr : (Tryz.prog.info? 9).map (fun i => (i.zero, i.size, i.bytes)) = some (some (.string ⟨#[]⟩), 1, 16) := by kernel_rfl
def LabelsPost (l : List UInt8) (w : World) (e : Ending) (w' : World) : Prop := ∃ v, e = .returned v ∧ StrsNew w.heap.size w' v ((labels l).map str) ∧ Below w.heap.size w w'
/-- What is still to be done: D: the labels done; f: where the label under way begins. -/
def LabRel (s : ByteArray) (D : List (List UInt8)) (f k : Nat) : Prop :=
  (k ≤ s.size ∧ labels (lst s) = D ++ labelsGo (((lst s).take k).drop f) ((lst s).drop k)) ∨ (k = s.size + 1 ∧ labels (lst s) = D)
theorem lab_cut {s : ByteArray} {D : List (List UInt8)} {f k : Nat} (h : LabRel s D f k) (hk : k < s.size) (hd : (s[k].toNat : Int) = 46) : LabRel s (D ++ [((lst s).take k).drop f]) (k + 1) (k + 1) := by
  rcases h with ⟨_, h⟩ | ⟨h, _⟩
  · refine Or.inl ⟨by omega, ?_⟩
    rw [h, drop_cons s k hk, labelsGo, if_pos hd]
    have : ((lst s).take (k + 1)).drop (k + 1) = [] := by rw [List.drop_eq_nil_of_le]; simp; omega
    rw [this]
    simp
  · omega
theorem lab_go {s : ByteArray} {D : List (List UInt8)} {f k : Nat} (h : LabRel s D f k) (hf : f ≤ k) (hk : k < s.size) (hd : ¬ (s[k].toNat : Int) = 46) : LabRel s D f (k + 1) := by
  rcases h with ⟨_, h⟩ | ⟨h, _⟩
  · refine Or.inl ⟨by omega, ?_⟩
    have hl := lst_len s
    rw [h, drop_cons s k hk, labelsGo, if_neg hd, take_snoc s k hk, List.drop_append_of_le_length (by simp; omega)]
  · omega
theorem lab_end {s : ByteArray} {D : List (List UInt8)} {f k : Nat} (h : LabRel s D f k) (hk : k = s.size) : LabRel s (D ++ [((lst s).take k).drop f]) (k + 1) (k + 1) := by
  rcases h with ⟨_, h⟩ | ⟨h, _⟩
  · refine Or.inr ⟨by omega, ?_⟩
    rw [h, drop_nil s k (by omega), labelsGo]
  · omega
theorem lab_done {s : ByteArray} {D : List (List UInt8)} {f k : Nat} (h : LabRel s D f k) (hk : s.size < k) : labels (lst s) = D := by
  rcases h with ⟨h1, _⟩ | ⟨_, h⟩
  · omega
  · exact h
theorem extract_cut (s : ByteArray) (f k : Nat) : lst (s.extract f k) = ((lst s).take k).drop f := by
  rw [lst_extract, List.drop_take]
theorem ext_str (s : ByteArray) (f k : Nat) : s.extract f k = str (((lst s).take k).drop f) := lst_inj (by rw [extract_cut, lst_str])
/-- An owned row of strings that is not empty is a new list of strings. -/
theorem strs_of_own {B : Nat} {w : World} {v : Value} {D : List (List UInt8)} (h : w.ownsRow B 9 1 v D.length (D.map fun x => Value.string (str x))) (hne : D ≠ []) : StrsNew B w v (D.map str) := by
  obtain ⟨hl, h⟩ := h
  rcases h with ⟨_, h0⟩ | ⟨g, cap, cur, hv, hg, hh, hc1, hc2, hc3, hc4⟩
  · exact absurd (List.length_eq_zero_iff.1 h0) hne
  · refine ⟨g, cap, by rw [hv]; simp, hg, (Array.getElem?_eq_some_iff.1 hh).1, ?_⟩
    intro j s hj
    have hjl : j < D.length := by have := (List.getElem?_eq_some_iff.1 hj).1; simpa using this
    have e1 : (D.map fun x => Value.string (str x))[j]? = some (Value.string s) := by
      rw [List.getElem?_map] at hj ⊢
      cases hd : D[j]? with
      | none => rw [hd] at hj; cases hj
      | some x => rw [hd] at hj; simp at hj; subst hj; rfl
    rw [← hc4, List.getElem?_take_of_lt (by omega)] at e1
    show World.cell? w ⟨g, j, none⟩ = _
    unfold World.cell?
    rw [hh]
    simpa using e1
theorem own_row_ge {w : World} {B : Nat} {e : TypeId} {sz : Nat} {v : Value} {n : Nat} {xs : List Value} (h : w.ownsRow B e sz v n xs) : ∀ k, v.ownBlock = some k → B ≤ k := by
  intro k hk
  obtain ⟨_, h⟩ := h
  rcases h with ⟨h0, _⟩ | ⟨g, cap, cur, hv, hg, _⟩
  · subst h0; cases hk
  · subst hv; cases hk; exact hg
/-- An append of one element (its own block first) to an owned row keeps what lies below. -/
theorem below_append {B : Nat} {w wr w' : World} {e : TypeId} {sz : Nat} {v : Value} {n : Nat} {xs : List Value} {o : Obj} (hb : Below B w wr) (hB : B ≤ wr.heap.size) (hown : wr.ownsRow B e sz v n xs) (hg : (wr.alloc o).grownBy w' v.ownBlock) : Below B w w' :=
  (hb.alloc hB o).grown hg (by rw [World.size_alloc]; omega) (own_row_ge hown)
theorem own_snoc {B : Nat} {w' : World} {v' : Value} {D : List (List UInt8)} {t : ByteArray} {x : List UInt8} (h : w'.ownsRow B 9 1 v' (D.length + 1) ((D.map fun x => Value.string (str x)) ++ [.string t])) (ht : t = str x) :
    w'.ownsRow B 9 1 v' (D ++ [x]).length ((D ++ [x]).map fun x => Value.string (str x)) := by subst ht; simpa using h
set_option maxRecDepth 100000 in
set_option maxHeartbeats 1600000 in
theorem labels_any (s : ByteArray) (w : World) (hs : s.size ≤ 4294967296) : Calls Tryz.prog 32 #[.string s] w (LabelsPost (lst s) w) := by
  obtain ⟨i0, hi, hz0, hz1, hz2⟩ := info_parts Tryz.infoStr
  go_enter Tryz.func32, Tryz.ntmps32
  go_wp2
  go_loopw [3, 4, 5] (fun v fv i wr => ∃ (k f : Nat) (D : List (List UInt8)), k ≤ s.size + 1 ∧ f ≤ k ∧ D.length ≤ k ∧ i = .int .i64 k ∧ fv = .int .i64 f ∧ wr.ownsRow w.heap.size 9 1 v D.length (D.map fun x => Value.string (str x)) ∧ Below w.heap.size w wr ∧ LabRel s D f k)
    (fun _ _ i _ => s.size + 1 - (intOf i).toNat)
  case atStart => exact ⟨0, 0, [], by omega, Nat.le_refl _, by simp, rfl, rfl, World.ownsRow_nil _ _ _ _, Below.refl _ _, Or.inl ⟨by omega, by simp [labels]⟩⟩
  case round =>
    obtain ⟨k, f, D, hk, hf, hD, rfl, rfl, hown, hb, hrel⟩ := hrel
    by_cases hgt : s.size < k
    · go_wp2
      have hD2 := lab_done hrel hgt
      go_ret
      exact ⟨_, rfl, by rw [hD2]; exact strs_of_own hown (by rw [← hD2]; exact labels_ne _), hb⟩
    · have hsz := hb.size
      have hm : (s.size + 1) * 16 ≤ 140737488355328 := by omega
      by_cases he : k = s.size
      · have he' : ((k : Int) == (s.size : Int)) = true := by simp; omega
        have R := lab_end hrel he
        have HR := Lib.hid R
        have He := Lib.hid he
        have hks : k ≤ s.size := by omega
        clear R hrel he
        go_wp2_with (first
          | (at_builtin; refine wpList_append_own _ rfl _ _ 22 rfl w.heap.size 9 i0 (.string ⟨#[]⟩) 1 16 Tryz.underlying22 hi hz0 hz1 hz2 rfl (by decide) _ _ _ rfl (hown.alloc _) ⟨wr.heap.size, 0, none⟩ 1 1 [.string (s.extract f k)] rfl rfl (cell_one_new _ _ _) ?c2 ?c3 ?c4 ?c5 ?_))
        case c2 => intro u hu; simp at hu; subst hu; rfl
        case c3 => unfold maxLen; omega
        case c4 => omega
        case c5 => simp; omega
        intro v' w1 hown' hgrow _
        have O := own_snoc hown' (ext_str s f k)
        have B := below_append hb hsz hown hgrow
        clear hown' hgrow hown hb
        go_wp2
        go_roundw
        case rel => exact ⟨k + 1, k + 1, _, by omega, by omega, by simp; omega, by go_num, by go_num, O, B, HR.out⟩
        case measure => simp [intOf]; omega
      · have he' : ((k : Int) == (s.size : Int)) = false := by simp; omega
        have hlt : k < s.size := by omega
        by_cases hd : (s[k].toNat : Int) = 46
        · have hd' : ((s[k].toNat : Int) == 46) = true := by simpa using hd
          have HR := Lib.hid (lab_cut hrel hlt hd)
          clear hrel he hd
          go_wp2_with (first
            | (at_builtin; refine wpList_append_own _ rfl _ _ 22 rfl w.heap.size 9 i0 (.string ⟨#[]⟩) 1 16 Tryz.underlying22 hi hz0 hz1 hz2 rfl (by decide) _ _ _ rfl (hown.alloc _) ⟨wr.heap.size, 0, none⟩ 1 1 [.string (s.extract f k)] rfl rfl (cell_one_new _ _ _) ?d2 ?d3 ?d4 ?d5 ?_))
          case d2 => intro u hu; simp at hu; subst hu; rfl
          case d3 => unfold maxLen; omega
          case d4 => omega
          case d5 => simp; omega
          intro v' w1 hown' hgrow _
          have O := own_snoc hown' (ext_str s f k)
          have B := below_append hb hsz hown hgrow
          clear hown' hgrow hown hb
          go_wp2
          go_roundw
          case rel => exact ⟨k + 1, k + 1, _, by omega, by omega, by simp; omega, by go_num, by go_num, O, B, HR.out⟩
          case measure => simp [intOf]; omega
        · have hd' : ((s[k].toNat : Int) == 46) = false := by simpa using hd
          have HR := Lib.hid (lab_go hrel hf hlt hd)
          clear hrel he hd
          go_wp2
          go_roundw
          case rel => exact ⟨k + 1, f, D, by omega, by omega, by omega, by go_num, rfl, hown, hb, HR.out⟩
          case measure => simp [intOf]; omega
end Go.Proofs.YtcofblepdfjhjaaGreatDoor
