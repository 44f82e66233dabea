/- Walks: digits, names, addresses (the reference's functions). -/
import Derived.Test.YtcofblepdfjhjaaGreatDoorW5
namespace Go.Proofs.YtcofblepdfjhjaaGreatDoor
open Go.RowKit
theorem empty_lst (s : ByteArray) : s.toList.isEmpty = decide (lst s = []) := by rw [toList_lst]; cases lst s <;> rfl
theorem size_zero (s : ByteArray) : s.size = 0 ↔ lst s = [] := by rw [← lst_len, List.length_eq_zero_iff]
set_option maxRecDepth 100000 in
set_option maxHeartbeats 400000 in
theorem digits_any (s : ByteArray) (w : World) (hs : s.size ≤ 9223372036854775807) :
    Calls Tryz.prog 20 #[.string s] w fun e w' => e = .returned (.bool (digB (lst s))) ∧ w = w' := by
  go_enter Tryz.func20, Tryz.ntmps20
  go_wp2
  go_loop [6] (fun i => ∃ k : Nat, k ≤ s.size ∧ i = .int .i64 k ∧ Hid (allDig (lst s) = allDig ((lst s).drop k))) (fun i => s.size - (intOf i).toNat)
  case atStart => exact ⟨0, Nat.zero_le _, rfl, rfl⟩
  case round =>
    obtain ⟨k, hk, rfl, hrel⟩ := hrel
    by_cases hlt : k < s.size
    · by_cases h1 : (s[k].toNat : Int) < 48
      · go_wp2
        go_ret
        exact ⟨ret_bool (by rw [digB, hrel.out, drop_cons s k hlt, allDig, if_pos (Or.inl h1)]; rfl), rfl⟩
      · by_cases h2 : 57 < (s[k].toNat : Int)
        · go_wp2
          go_ret
          exact ⟨ret_bool (by rw [digB, hrel.out, drop_cons s k hlt, allDig, if_pos (Or.inr h2)]; rfl), rfl⟩
        · go_wp2
          go_round
          case rel => exact ⟨k + 1, by omega, by go_num, by show _ = _; rw [hrel.out, drop_cons s k hlt, allDig, if_neg (by omega)]⟩
          case measure => simp [intOf]; omega
    · have HA : Hid (allDig (lst s) = true) := by show _ = _; rw [hrel.out, drop_nil s k hlt]; rfl
      clear hrel
      by_cases h0 : s.toList.isEmpty = true
      · have h00 := Lib.hid h0
        have hz : lst s = [] := by rw [empty_lst] at h0; simpa using h0
        have Hz := Lib.hid hz
        clear hz
        go_wp2
        go_ret
        exact ⟨ret_bool (by rw [digB, Hz.out]; rfl), rfl⟩
      · have h00 : s.toList.isEmpty = false := by simpa using h0
        have hz : ¬ lst s = [] := by rw [empty_lst] at h0; simpa using h0
        have Hz := Lib.hid hz
        clear hz h0
        go_wp2
        go_ret
        exact ⟨ret_bool (by rw [digB, HA.out, Bool.true_and]; exact decide_congr (by rw [lst_len]; have := Hz.out; simp [this]; try omega)), rfl⟩
theorem all_drop {α : Type} (p : α → Bool) (L : List α) (k : Nat) (h : k < L.length) : (L.drop k).all p = (p L[k] && (L.drop (k + 1)).all p) := by
  rw [List.drop_eq_getElem_cons h]; rfl
theorem all_dropped {α : Type} (p : α → Bool) (L : List α) (k : Nat) (h : ¬ k < L.length) : (L.drop k).all p = true := by
  rw [List.drop_eq_nil_of_le (by omega)]; rfl
theorem all_map_str (p : List UInt8 → Bool) (l : List (List UInt8)) : (l.map str).all (fun s => p (lst s)) = l.all p := by
  induction l with
  | nil => rfl
  | cons x r ih => simp only [List.map_cons, List.all_cons, lst_str, ih]
/-- What a walk over the labels of s begins with. -/
structure LabIn (s : ByteArray) (L : List ByteArray) : Prop where
  eq : L = (labels (lst s)).map str
  len : L.length ≤ s.size + 1
  small : ∀ x ∈ L, x.size ≤ s.size
theorem labels_small (l : List UInt8) : ∀ cur, ∀ x ∈ labelsGo cur l, x.length ≤ cur.length + l.length := by
  induction l with
  | nil => intro cur x hx; simp [labelsGo] at hx; subst hx; simp
  | cons y r ih =>
    intro cur x hx
    rw [labelsGo] at hx
    split at hx
    · rcases List.mem_cons.1 hx with rfl | hx
      · simp
      · have := ih [] x hx; simp at this ⊢; omega
    · have := ih _ x hx; simp at this ⊢; omega
theorem labIn (s : ByteArray) : LabIn s ((labels (lst s)).map str) := by
  refine ⟨rfl, ?_, ?_⟩
  · have := labels_len (lst s); rw [lst_len] at this; simpa using this
  · intro x hx
    obtain ⟨y, hy, rfl⟩ := List.mem_map.1 hx
    have := labels_small (lst s) [] y hy
    rw [lst_len] at this
    rw [str_size]; simpa using this
set_option maxRecDepth 100000 in
set_option maxHeartbeats 400000 in
theorem numbered_any (s : ByteArray) (w : World) (hs : s.size ≤ 4294967296) :
    Calls Tryz.prog 34 #[.string s] w fun e w' => e = .returned (.bool (numB (lst s))) ∧ Below w.heap.size w w' := by
  go_enter Tryz.func34, Tryz.ntmps34
  go_wp2_with fail
  refine (labels_any s w hs).mono ?_
  have hI := labIn s
  rintro e w1 ⟨v, rfl, ⟨b, cap, rfl, hbB, hbs, hc⟩, hb⟩
  generalize (labels (lst s)).map str = L at *
  have HC := Lib.hid hc
  clear hc
  have hlen := hI.len
  have HI := Lib.hid hI
  clear hI
  go_wp2_with fail
  go_loop [8] (fun i => ∃ k : Nat, k ≤ L.length ∧ i = .int .i64 k ∧ Hid (numB (lst s) = (L.drop k).all fun s => digB (lst s))) (fun i => L.length - (intOf i).toNat)
  case atStart => exact ⟨0, Nat.zero_le _, rfl, by show _ = _; rw [HI.out.eq, List.drop_zero, all_map_str]; rfl⟩
  case round =>
    obtain ⟨k, hk, rfl, hrel⟩ := hrel
    by_cases hlt : k < L.length
    · have hcell := HC.out k L[k] (List.getElem?_eq_getElem hlt)
      have hsm : L[k].size ≤ 9223372036854775807 := by have := HI.out.small L[k] (List.getElem_mem hlt); omega
      have hrel' : Hid (numB (lst s) = (digB (lst L[k]) && (L.drop (k + 1)).all fun s => digB (lst s))) := by show _ = _; rw [hrel.out, all_drop _ L k hlt]
      clear hrel
      generalize L[k] = x at *
      by_cases hd : digB (lst x) = true
      · have Hd := Lib.hid hd
        clear hd
        go_wp2_with (go_at_call 20; refine (digits_any _ _ hsm).mono ?_; rintro e w' ⟨rfl, rfl⟩; rw [Hd.out])
        go_round
        case rel => exact ⟨k + 1, by omega, by go_num, by show _ = _; rw [hrel'.out, Hd.out, Bool.true_and]⟩
        case measure => simp [intOf]; omega
      · have hd' : digB (lst x) = false := by simpa using hd
        have Hd := Lib.hid hd'
        clear hd hd'
        go_wp2_with (go_at_call 20; refine (digits_any _ _ hsm).mono ?_; rintro e w' ⟨rfl, rfl⟩; rw [Hd.out])
        go_ret
        exact ⟨ret_bool (by rw [hrel'.out, Hd.out]; rfl), hb⟩
    · go_wp2
      go_ret
      exact ⟨ret_bool (by rw [hrel.out, all_dropped _ L k hlt]), hb⟩
end Go.Proofs.YtcofblepdfjhjaaGreatDoor
