/- Walks: letters turned to lower or upper case through a slice of bytes. -/
import Derived.Test.YtcofblepdfjhjaaGreatDoorW2
namespace Go.Proofs.YtcofblepdfjhjaaGreatDoor
open Go.RowKit
/-- Block b holds the bytes l, and none of them is frozen. -/
def ByteRow (w : World) (b : Nat) (l : List UInt8) : Prop := ∀ j x, l[j]? = some x → w.cell? ⟨b, j, none⟩ = some (.int .u8 (x.toNat : Int)) ∧ w.frozen? ⟨b, j, none⟩ = false
theorem ByteRow.set {w : World} {b : Nat} {l : List UInt8} (h : ByteRow w b l) (k : Nat) (hk : k < l.length) (y : UInt8) {v : Int} (hv : v = (y.toNat : Int)) :
    ByteRow (w.setCell ⟨b, k, none⟩ (.int .u8 v)) b (l.set k y) := by
  subst hv
  intro j x hj
  by_cases e : k = j
  · subst e
    rw [List.getElem?_set_self hk] at hj
    cases hj
    obtain ⟨h1, h2⟩ := h k l[k] (List.getElem?_eq_getElem hk)
    exact ⟨World.cell?_setCell_same _ _ _ h1, by rw [World.frozen?_setCell]; exact h2⟩
  · rw [List.getElem?_set_ne e] at hj
    obtain ⟨h1, h2⟩ := h j x hj
    exact ⟨by rw [World.cell?_setCell_other _ _ _ _ (by simp)]; exact h1, by rw [World.frozen?_setCell]; exact h2⟩
theorem conv_bytes (s : ByteArray) (w : World) : ∃ cap w1, (convert 9 60 (.string s)).run Tryz.prog w = .ok (.slice (some ⟨w.heap.size, 0, none⟩) s.size cap) w1 ∧ ByteRow w1 w.heap.size (lst s) ∧ Below w.heap.size w w1 ∧ w1.heap.size = w.heap.size + 1 := by
  refine ⟨_, _, run_bytes_of_string w 9 60 5 s Tryz.underlying9 Tryz.underlying60 Tryz.underlying5, ?_, ?_, ?_⟩
  · intro j x hj
    have hlt : j < s.size := by have := (List.getElem?_eq_some_iff.1 hj).1; rw [lst_len] at this; exact this
    have hx : x = s[j] := by rw [lst_get s j hlt] at hj; cases hj; rfl
    subst hx
    refine ⟨?_, ?_⟩
    · have := World.cell?_alloc_mark w.drew (bytesRow s (grownCap w s.size 0 5)) 5 ((bytesRow s (grownCap w s.size 0 5)).size, (bytesRow s (grownCap w s.size 0 5)).size + 1) j
      refine Eq.trans this ?_
      unfold bytesRow
      rw [Array.getElem?_append_left (by simpa using hlt), Array.getElem?_map]
      simp only [ByteArray.getElem_eq_getElem_data, Option.map_eq_some_iff]
      exact ⟨s[j], by rw [Array.getElem?_eq_getElem (by simpa using hlt)]; rfl, rfl⟩
    · have := World.frozen?_alloc_mark w.drew (bytesRow s (grownCap w s.size 0 5)) 5 ((bytesRow s (grownCap w s.size 0 5)).size) ((bytesRow s (grownCap w s.size 0 5)).size + 1) j
      refine Eq.trans this ?_
      have : s.size ≤ (bytesRow s (grownCap w s.size 0 5)).size := by unfold bytesRow; rw [Array.size_append]; simp
      simp; omega
  · exact (Below.refl _ _).drew.alloc (Nat.le_refl _) _
  · simp
theorem conv_back {w : World} {b cap n : Nat} {l : List UInt8} (h : ByteRow w b l) (hn : n = l.length) :
    (convert 60 9 (.slice (some ⟨b, 0, none⟩) n cap)).run Tryz.prog w = .ok (.string (str l)) w := by
  subst hn
  refine run_convert_bytes_back w 60 9 5 ⟨b, 0, none⟩ cap l Tryz.underlying60 Tryz.underlying5 Tryz.underlying9 fun j hj => ?_
  have := (h j l[j] (List.getElem?_eq_getElem hj)).1
  unfold Addr.add
  split
  · rename_i h0; subst h0; exact this
  · simpa using this
/-- k bytes turned by f, the others as they were. -/
def mix (f : UInt8 → UInt8) (l : List UInt8) (k : Nat) : List UInt8 := (l.take k).map f ++ l.drop k
theorem mix_zero (f : UInt8 → UInt8) (l : List UInt8) : mix f l 0 = l := by simp [mix]
theorem mix_all (f : UInt8 → UInt8) (l : List UInt8) (k : Nat) (h : l.length ≤ k) : mix f l k = l.map f := by
  rw [mix, List.take_of_length_le h, List.drop_eq_nil_of_le h, List.append_nil]
theorem mix_len (f : UInt8 → UInt8) (l : List UInt8) (k : Nat) : (mix f l k).length = l.length := by simp [mix]; omega
theorem mix_get (f : UInt8 → UInt8) (s : ByteArray) (k : Nat) (h : k < s.size) : (mix f (lst s) k)[k]? = some s[k] := by
  rw [mix, List.getElem?_append_right (by simp; omega), List.getElem?_drop, ← lst_get s k h]
  congr 1
  have := lst_len s
  simp; omega
theorem mix_succ (f : UInt8 → UInt8) (s : ByteArray) (k : Nat) (h : k < s.size) : mix f (lst s) (k + 1) = (mix f (lst s) k).set k (f s[k]) := by
  have hl := lst_len s
  rw [mix, mix, take_snoc s k h, List.map_append, List.set_append_right _ _ (by simp; omega), drop_cons s k h]
  have e : k - (List.map f (List.take k (lst s))).length = 0 := by simp; omega
  rw [e]
  simp
theorem mix_same (f : UInt8 → UInt8) (s : ByteArray) (k : Nat) (h : k < s.size) (hf : f s[k] = s[k]) : mix f (lst s) (k + 1) = mix f (lst s) k := by
  rw [mix, mix, take_snoc s k h, List.map_append, drop_cons s k h, List.map_cons, List.map_nil, hf]
  simp
theorem u8_add (x : UInt8) (n : Nat) (h : x.toNat + n < 256) : ((x + UInt8.ofNat n).toNat : Int) = (x.toNat : Int) + n := by
  rw [UInt8.toNat_add, UInt8.toNat_ofNat']; omega
theorem u8_sub (x : UInt8) (n : Nat) (h : n ≤ x.toNat) : ((x - UInt8.ofNat n).toNat : Int) = (x.toNat : Int) - n := by
  have := x.toNat_lt
  rw [UInt8.toNat_sub, UInt8.toNat_ofNat']; omega
set_option maxHeartbeats 800000 in
theorem zzLow_any (s : ByteArray) (w : World) (hs : s.size ≤ 9223372036854775807) :
    Calls Tryz.prog 91 #[.string s] w fun e w' => e = .returned (.string (str (low (lst s)))) ∧ Below w.heap.size w w' := by
  obtain ⟨cap, w1, hconv, hrow, hbel, hsz⟩ := conv_bytes s w
  have Hsz := Lib.hid hsz
  clear hsz
  go_enter Tryz.func91, Tryz.ntmps91
  go_wp2
  go_loopw [10] (fun i wr => ∃ k : Nat, k ≤ s.size ∧ i = .int .i64 k ∧ ByteRow wr w.heap.size (mix lowC (lst s) k) ∧ Below w.heap.size w wr) (fun i _ => s.size - (intOf i).toNat)
  case atStart => exact ⟨0, Nat.zero_le _, rfl, by rw [mix_zero]; exact hrow, hbel⟩
  case round =>
    obtain ⟨k, hk, rfl, hr, hb⟩ := hrel
    clear hrow hbel hconv Hsz
    by_cases hlt : k < s.size
    · obtain ⟨hc, hf⟩ := hr k _ (mix_get lowC s k hlt)
      by_cases h1 : 65 ≤ (s[k].toNat : Int)
      · by_cases h2 : (s[k].toNat : Int) ≤ 90
        · have R := hr.set k (by rw [mix_len, lst_len]; exact hlt) (lowC s[k]) (v := (s[k].toNat : Int) + 32) (by rw [lowC, if_pos ⟨h1, h2⟩]; exact (u8_add s[k] 32 (by omega)).symm)
          rw [← mix_succ lowC s k hlt] at R
          have B := hb.setCell (p := ⟨w.heap.size, k, none⟩) (Nat.le_refl _) (.int .u8 ((s[k].toNat : Int) + 32))
          clear hr hb
          go_wp2
          go_roundw
          case rel => exact ⟨k + 1, by omega, by go_num, R, B⟩
          case measure => simp [intOf]; omega
        · have R := mix_same lowC s k hlt (by rw [lowC, if_neg (by omega)])
          rw [← R] at hr
          clear R
          go_wp2
          go_roundw
          case rel => exact ⟨k + 1, by omega, by go_num, hr, hb⟩
          case measure => simp [intOf]; omega
      · have R := mix_same lowC s k hlt (by rw [lowC, if_neg (by omega)])
        rw [← R] at hr
        clear R
        go_wp2
        go_roundw
        case rel => exact ⟨k + 1, by omega, by go_num, hr, hb⟩
        case measure => simp [intOf]; omega
    · have hback := conv_back (cap := cap) (n := s.size) hr (by rw [mix_len, lst_len])
      rw [mix_all lowC (lst s) k (by rw [lst_len]; omega)] at hback
      have hback' : (convert 60 9 (.slice (some ⟨w.heap.size, 0, none⟩) s.size cap)).run Tryz.prog wr = .ok (.string (str (low (lst s)))) wr := hback
      clear hback hr
      go_wp2
      go_ret
      exact ⟨rfl, hb⟩
set_option maxHeartbeats 800000 in
theorem lower_any (s : ByteArray) (w : World) (hs : s.size ≤ 9223372036854775807) :
    Calls Tryz.prog 18 #[.string s] w fun e w' => e = .returned (.string (str (low (lst s)))) ∧ Below w.heap.size w w' := by
  obtain ⟨cap, w1, hconv, hrow, hbel, hsz⟩ := conv_bytes s w
  have Hsz := Lib.hid hsz
  clear hsz
  go_enter Tryz.func18, Tryz.ntmps18
  go_wp2
  go_loopw [10] (fun i wr => ∃ k : Nat, k ≤ s.size ∧ i = .int .i64 k ∧ ByteRow wr w.heap.size (mix lowC (lst s) k) ∧ Below w.heap.size w wr) (fun i _ => s.size - (intOf i).toNat)
  case atStart => exact ⟨0, Nat.zero_le _, rfl, by rw [mix_zero]; exact hrow, hbel⟩
  case round =>
    obtain ⟨k, hk, rfl, hr, hb⟩ := hrel
    clear hrow hbel hconv Hsz
    by_cases hlt : k < s.size
    · obtain ⟨hc, hf⟩ := hr k _ (mix_get lowC s k hlt)
      by_cases h1 : 65 ≤ (s[k].toNat : Int)
      · by_cases h2 : (s[k].toNat : Int) ≤ 90
        · have R := hr.set k (by rw [mix_len, lst_len]; exact hlt) (lowC s[k]) (v := (s[k].toNat : Int) + 97 - 65) (by rw [lowC, if_pos ⟨h1, h2⟩]; have := u8_add s[k] 32 (by omega); show _ = ((s[k] + UInt8.ofNat 32).toNat : Int); omega)
          rw [← mix_succ lowC s k hlt] at R
          have B := hb.setCell (p := ⟨w.heap.size, k, none⟩) (Nat.le_refl _) (.int .u8 ((s[k].toNat : Int) + 97 - 65))
          clear hr hb
          go_wp2
          go_roundw
          case rel => exact ⟨k + 1, by omega, by go_num, R, B⟩
          case measure => simp [intOf]; omega
        · have R := mix_same lowC s k hlt (by rw [lowC, if_neg (by omega)])
          rw [← R] at hr
          clear R
          go_wp2
          go_roundw
          case rel => exact ⟨k + 1, by omega, by go_num, hr, hb⟩
          case measure => simp [intOf]; omega
      · have R := mix_same lowC s k hlt (by rw [lowC, if_neg (by omega)])
        rw [← R] at hr
        clear R
        go_wp2
        go_roundw
        case rel => exact ⟨k + 1, by omega, by go_num, hr, hb⟩
        case measure => simp [intOf]; omega
    · have hback := conv_back (cap := cap) (n := s.size) hr (by rw [mix_len, lst_len])
      rw [mix_all lowC (lst s) k (by rw [lst_len]; omega)] at hback
      have hback' : (convert 60 9 (.slice (some ⟨w.heap.size, 0, none⟩) s.size cap)).run Tryz.prog wr = .ok (.string (str (low (lst s)))) wr := hback
      clear hback hr
      go_wp2
      go_ret
      exact ⟨rfl, hb⟩
end Go.Proofs.YtcofblepdfjhjaaGreatDoor
