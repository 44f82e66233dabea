/- Walks of small string functions (2). -/
import Derived.Test.YtcofblepdfjhjaaGreatDoorW1
import Derived.BigQuiet
import Derived.Lib.Hide
namespace Go.Proofs.YtcofblepdfjhjaaGreatDoor
open Go.RowKit
set_option maxHeartbeats 400000 in
theorem zzTrimSuffix_any (s : ByteArray) (n : Int) (w : World) (hs : s.size ≤ 9223372036854775807) :
    Calls Tryz.prog 72 #[.string s, .int .u8 n] w fun e w' => e = .returned (.string (str (trimSuf n (lst s)))) ∧ w = w' := by
  by_cases h0 : 0 < s.size
  · have hg : Hid ((lst s).getD ((lst s).length - 1) 0 = s[s.size - 1]) := by show _ = _; rw [lst_len]; exact getD_lst s _ (by omega)
    by_cases h1 : ((s[s.size - 1].toNat : Int) == n) = true
    · go_enter Tryz.func72, Tryz.ntmps72
      go_wp2
      go_ret
      exact ⟨ret_str (lst_inj (by rw [lst_str, extract_to, trimSuf, hg.out, if_pos ⟨by rw [lst_len]; exact h0, beqT h1⟩, lst_len])), rfl⟩
    · have h1' := by simpa using h1
      go_enter Tryz.func72, Tryz.ntmps72
      go_wp2
      go_ret
      exact ⟨ret_str (by rw [trimSuf, hg.out, if_neg (fun h => h1' h.2), str_lst]), rfl⟩
  · go_enter Tryz.func72, Tryz.ntmps72
    go_wp2
    go_ret
    exact ⟨ret_str (by rw [trimSuf, if_neg (fun h => h0 (by rw [lst_len] at h; exact h.1)), str_lst]), rfl⟩
set_option maxHeartbeats 400000 in
theorem zzTrimPrefix_any (s : ByteArray) (n : Int) (w : World) (hs : s.size ≤ 9223372036854775807) :
    Calls Tryz.prog 104 #[.string s, .int .u8 n] w fun e w' => e = .returned (.string (str (trimPre n (lst s)))) ∧ w = w' := by
  by_cases h0 : 0 < s.size
  · have hg : Hid ((lst s).getD 0 0 = s[0]) := getD_lst s _ (by omega)
    by_cases h1 : ((s[0].toNat : Int) == n) = true
    · go_enter Tryz.func104, Tryz.ntmps104
      go_wp2
      go_ret
      exact ⟨ret_str (lst_inj (by rw [lst_str, extract_from, trimPre, hg.out, if_pos ⟨by rw [lst_len]; exact h0, beqT h1⟩])), rfl⟩
    · have h1' := by simpa using h1
      go_enter Tryz.func104, Tryz.ntmps104
      go_wp2
      go_ret
      exact ⟨ret_str (by rw [trimPre, hg.out, if_neg (fun h => h1' h.2), str_lst]), rfl⟩
  · go_enter Tryz.func104, Tryz.ntmps104
    go_wp2
    go_ret
    exact ⟨ret_str (by rw [trimPre, if_neg (fun h => h0 (by rw [lst_len] at h; exact h.1)), str_lst]), rfl⟩
theorem decide_congr {p q : Prop} [Decidable p] [Decidable q] (h : p ↔ q) : decide p = decide q := by rw [Bool.eq_iff_iff]; simp [h]
set_option maxHeartbeats 400000 in
theorem zzHasPrefix_any (s t : ByteArray) (w : World) :
    Calls Tryz.prog 94 #[.string s, .string t] w fun e w' => e = .returned (.bool (hasPre (lst s) (lst t))) ∧ w = w' := by
  by_cases h0 : t.size ≤ s.size
  · go_enter Tryz.func94, Tryz.ntmps94
    go_wp2
    go_ret
    exact ⟨ret_bool (by rw [beq_lst, hasPre, extract_to]; exact decide_congr (by rw [lst_len, lst_len]; exact ⟨fun h => ⟨h0, h⟩, fun h => h.2⟩)), rfl⟩
  · go_enter Tryz.func94, Tryz.ntmps94
    go_wp2
    go_ret
    exact ⟨ret_bool (by rw [hasPre, eq_comm, decide_eq_false_iff_not, lst_len, lst_len]; exact fun h => h0 h.1), rfl⟩
set_option maxHeartbeats 400000 in
theorem hasDotSuffix_any (s t : ByteArray) (w : World) (hs : s.size ≤ 9223372036854775807) :
    Calls Tryz.prog 93 #[.string s, .string t] w fun e w' => e = .returned (.bool (dotSuf (lst s) (lst t))) ∧ w = w' := by
  by_cases h0 : t.size < s.size
  · have hg : Hid ((lst s).getD ((lst s).length - (lst t).length - 1) 0 = s[s.size - t.size - 1]) := by show _ = _; rw [lst_len, lst_len]; exact getD_lst s _ (by omega)
    by_cases h1 : ((s[s.size - t.size - 1].toNat : Int) == 46) = true
    · go_enter Tryz.func93, Tryz.ntmps93
      go_wp2
      go_ret
      exact ⟨ret_bool (by rw [beq_lst, dotSuf, extract_from, hg.out]; exact decide_congr (by rw [lst_len, lst_len]; exact ⟨fun h => ⟨h0, beqT h1, h⟩, fun h => h.2.2⟩)), rfl⟩
    · have h1' := by simpa using h1
      go_enter Tryz.func93, Tryz.ntmps93
      go_wp2
      go_ret
      exact ⟨ret_bool (by rw [dotSuf, eq_comm, decide_eq_false_iff_not, hg.out]; exact fun h => h1' h.2.1), rfl⟩
  · go_enter Tryz.func93, Tryz.ntmps93
    go_wp2
    go_ret
    exact ⟨ret_bool (by rw [dotSuf, eq_comm, decide_eq_false_iff_not, lst_len, lst_len]; exact fun h => h0 h.1), rfl⟩
set_option maxHeartbeats 400000 in
theorem iends_any (s t : ByteArray) (w : World) (hs : s.size ≤ 9223372036854775807) (ht : t.size ≤ 9223372036854775807) :
    Calls Tryz.prog 127 #[.string s, .string t] w fun e w' => e = .returned (.bool (decide (lst s = lst t) || dotSuf (lst s) (lst t))) ∧ w = w' := by
  have hne : s.size ≠ t.size → ¬ lst s = lst t := fun h e => h (by rw [← lst_len, e, lst_len])
  by_cases he : s.size = t.size
  · have e1 : (((s.size : Int) - t.size == 0) = true) := by simp; omega
    have hd : dotSuf (lst s) (lst t) = false := by rw [dotSuf, decide_eq_false_iff_not, lst_len, lst_len]; omega
    have Hd := Lib.hid hd
    clear hd
    by_cases h2 : (s.toList == t.toList) = true
    · go_enter Tryz.func127, Tryz.ntmps127
      go_wp2
      go_ret
      exact ⟨ret_bool (by rw [beq_lst] at h2; rw [h2]; rfl), rfl⟩
    · go_enter Tryz.func127, Tryz.ntmps127
      go_wp2
      go_ret
      exact ⟨ret_bool (by rw [beq_lst] at h2; simp only [Bool.not_eq_true] at h2; rw [h2, Hd.out]; rfl), rfl⟩
  · have hne' := Lib.hid (hne he)
    clear hne
    by_cases h0 : t.size < s.size
    · have e1 : (((s.size : Int) - t.size == 0) = false) := by simp; omega
      have hg : Hid ((lst s).getD ((lst s).length - (lst t).length - 1) 0 = s[s.size - t.size - 1]) := by show _ = _; rw [lst_len, lst_len]; exact getD_lst s _ (by omega)
      by_cases h1 : ((s[s.size - t.size - 1].toNat : Int) == 46) = true
      · go_enter Tryz.func127, Tryz.ntmps127
        go_wp2
        go_ret
        exact ⟨ret_bool (by rw [beq_lst, decide_eq_false hne'.out, dotSuf, extract_from, hg.out, Bool.false_or]; exact decide_congr (by rw [lst_len, lst_len]; exact ⟨fun h => ⟨h0, beqT h1, h⟩, fun h => h.2.2⟩)), rfl⟩
      · have h1' := by simpa using h1
        go_enter Tryz.func127, Tryz.ntmps127
        go_wp2
        go_ret
        exact ⟨ret_bool (by rw [decide_eq_false hne'.out, dotSuf, eq_comm, Bool.false_or, decide_eq_false_iff_not, hg.out]; exact fun h => h1' h.2.1), rfl⟩
    · have e1 : (((s.size : Int) - t.size == 0) = false) := by simp; omega
      go_enter Tryz.func127, Tryz.ntmps127
      go_wp2
      go_ret
      exact ⟨ret_bool (by rw [decide_eq_false hne'.out, dotSuf, eq_comm, Bool.false_or, decide_eq_false_iff_not, lst_len, lst_len]; exact fun h => h0 h.1), rfl⟩
theorem ip4_bad {v p d f : Int} {x : UInt8} {r : List UInt8} (h : 48 ≤ (x.toNat : Int) ∧ (x.toNat : Int) ≤ 57) (h2 : d = 1 ∧ v = 0) : ip4Go v p d f (x :: r) = (0, false) := by
  rw [ip4Go, if_pos h, if_pos h2]
theorem ip4_big {v p d f : Int} {x : UInt8} {r : List UInt8} (h : 48 ≤ (x.toNat : Int) ∧ (x.toNat : Int) ≤ 57) (h2 : ¬ (d = 1 ∧ v = 0)) (h3 : 255 < v * 10 + ((x.toNat : Int) - 48)) : ip4Go v p d f (x :: r) = (0, false) := by
  rw [ip4Go, if_pos h, if_neg h2, if_pos h3]
theorem ip4_dig {v p d f : Int} {x : UInt8} {r : List UInt8} (h : 48 ≤ (x.toNat : Int) ∧ (x.toNat : Int) ≤ 57) (h2 : ¬ (d = 1 ∧ v = 0)) (h3 : ¬ 255 < v * 10 + ((x.toNat : Int) - 48)) : ip4Go v p d f (x :: r) = ip4Go (v * 10 + ((x.toNat : Int) - 48)) p (d + 1) f r := by
  rw [ip4Go, if_pos h, if_neg h2, if_neg h3]
theorem ip4_oth {v p d f : Int} {x : UInt8} {r : List UInt8} (h : ¬ (48 ≤ (x.toNat : Int) ∧ (x.toNat : Int) ≤ 57)) (h2 : ¬ (x.toNat : Int) = 46) : ip4Go v p d f (x :: r) = (0, false) := by
  rw [ip4Go, if_neg h, if_neg h2]
theorem ip4_dotbad {v p d f : Int} {x : UInt8} {r : List UInt8} (h2 : (x.toNat : Int) = 46) (h3 : d = 0 ∨ r = [] ∨ p = 3) : ip4Go v p d f (x :: r) = (0, false) := by
  rw [ip4Go, if_neg (by omega), if_pos h2, if_pos h3]
theorem ip4_dot {v p d f : Int} {x : UInt8} {r : List UInt8} (h2 : (x.toNat : Int) = 46) (h3 : ¬ (d = 0 ∨ r = [] ∨ p = 3)) : ip4Go v p d f (x :: r) = ip4Go 0 (p + 1) 0 (if p = 0 then v else f) r := by
  rw [ip4Go, if_neg (by omega), if_pos h2, if_neg h3]
theorem ret_ip4 {l : List UInt8} {a : Int} {b : Bool} (h : ip4 l = (a, b)) : Ending.returned (.tuple #[.int .i64 a, .bool b]) = .returned (.tuple #[.int .i64 (ip4 l).1, .bool (ip4 l).2]) := by rw [h]
theorem drop_empty (s : ByteArray) (k : Nat) (h : k ≤ s.size) : (lst s).drop k = [] ↔ k = s.size := by
  rw [List.drop_eq_nil_iff, lst_len]; omega
set_option maxHeartbeats 1600000 in
theorem zzIPv4_any (s : ByteArray) (w : World) (hs : s.size ≤ 9223372036854775807) :
    Calls Tryz.prog 92 #[.string s] w fun e w' => e = .returned (.tuple #[.int .i64 (ip4 (lst s)).1, .bool (ip4 (lst s)).2]) ∧ w = w' := by
  go_enter Tryz.func92, Tryz.ntmps92
  go_wp2
  go_loop [2, 4, 5, 6, 7] (fun f v p d i => ∃ (k : Nat) (F V P D : Int), k ≤ s.size ∧ 0 ≤ V ∧ V ≤ 255 ∧ 0 ≤ P ∧ P ≤ k ∧ 0 ≤ D ∧ D ≤ k ∧ f = .int .i64 F ∧ v = .int .i64 V ∧ p = .int .i64 P ∧ d = .int .i64 D ∧ i = .int .i64 k ∧ Hid (ip4 (lst s) = ip4Go V P D F ((lst s).drop k))) (fun _ _ _ _ i => s.size - (intOf i).toNat)
  case atStart => exact ⟨0, 0, 0, 0, 0, by omega, by omega, by omega, by omega, by omega, by omega, by omega, rfl, rfl, rfl, rfl, rfl, rfl⟩
  case round =>
    obtain ⟨k, F, V, P, D, hk, hV0, hV, hP0, hP, hD0, hD, rfl, rfl, rfl, rfl, rfl, hrel⟩ := hrel
    by_cases hlt : k < s.size
    · have hrel' : Hid (ip4 (lst s) = ip4Go V P D F (s[k] :: (lst s).drop (k + 1))) := by show _ = _; rw [hrel.out, drop_cons s k hlt]
      clear hrel
      by_cases h1 : 48 ≤ (s[k].toNat : Int) ∧ (s[k].toNat : Int) ≤ 57
      · obtain ⟨h1a, h1b⟩ := h1
        by_cases h2 : D = 1 ∧ V = 0
        · obtain ⟨rfl, rfl⟩ := h2
          go_wp2
          go_ret2
          exact ⟨ret_ip4 (by rw [hrel'.out]; exact ip4_bad ⟨h1a, h1b⟩ ⟨rfl, rfl⟩), rfl⟩
        · by_cases h3 : 255 < V * 10 + ((s[k].toNat : Int) - 48)
          · have H2 := Lib.hid h2
            by_cases h4 : D = 1
            · obtain rfl := h4
              have h5 : (V == 0) = false := by simp; omega
              go_wp2
              go_ret2
              exact ⟨ret_ip4 (by rw [hrel'.out]; exact ip4_big ⟨h1a, h1b⟩ (fun h => by simp [h.2] at h5) h3), rfl⟩
            · have h5 : (D == 1) = false := by simp; omega
              go_wp2
              go_ret2
              exact ⟨ret_ip4 (by rw [hrel'.out]; exact ip4_big ⟨h1a, h1b⟩ H2.out h3), rfl⟩
          · have H2 := Lib.hid h2
            by_cases h4 : D = 1
            · obtain rfl := h4
              have h5 : (V == 0) = false := by simp; omega
              go_wp2
              go_round
              case rel => exact ⟨k + 1, F, V * 10 + ((s[k].toNat : Int) - 48), P, 2, by omega, by omega, by omega, by omega, by omega, by omega, by omega, rfl, rfl, rfl, rfl, by go_num, by show _ = _; rw [hrel'.out]; exact ip4_dig ⟨h1a, h1b⟩ H2.out h3⟩
              case measure => simp [intOf]; omega
            · have h5 : (D == 1) = false := by simp; omega
              go_wp2
              go_round
              case rel => exact ⟨k + 1, F, V * 10 + ((s[k].toNat : Int) - 48), P, D + 1, by omega, by omega, by omega, by omega, by omega, by omega, by omega, rfl, rfl, rfl, rfl, by go_num, by show _ = _; rw [hrel'.out]; exact ip4_dig ⟨h1a, h1b⟩ H2.out h3⟩
              case measure => simp [intOf]; omega
      · have H1 := Lib.hid h1
        by_cases hd : (s[k].toNat : Int) = 46
        · have hd' : ((s[k].toNat : Int) == 46) = true := by simpa using hd
          have hn := drop_empty s (k + 1) (by omega)
          have Hn := Lib.hid hn
          have Hd := Lib.hid hd
          clear hn hd h1
          have h1c : (s[k].toNat : Int) < 48 := by have := Hd.out; omega
          by_cases h3 : D = 0 ∨ k + 1 = s.size ∨ P = 3
          · have H3 : Hid (D = 0 ∨ (lst s).drop (k + 1) = [] ∨ P = 3) := by show _ ∨ _ ∨ _; rw [Hn.out]; exact h3
            by_cases h4 : D = 0
            · obtain rfl := h4
              go_wp2
              go_ret2
              exact ⟨ret_ip4 (by rw [hrel'.out]; exact ip4_dotbad Hd.out (Or.inl rfl)), rfl⟩
            · have h5 : (D == 0) = false := by simp; omega
              by_cases h6 : k + 1 = s.size
              · have h7 : ((k : Int) == (s.size : Int) - 1) = true := by simp; omega
                have H6 := Lib.hid h6
                clear h6 h3 Hn
                go_wp2
                go_ret2
                exact ⟨ret_ip4 (by rw [hrel'.out]; exact ip4_dotbad Hd.out H3.out), rfl⟩
              · have h7 : ((k : Int) == (s.size : Int) - 1) = false := by simp; omega
                have h8 : P = 3 := by omega
                obtain rfl := h8
                clear h3
                go_wp2
                go_ret2
                exact ⟨ret_ip4 (by rw [hrel'.out]; exact ip4_dotbad Hd.out (Or.inr (Or.inr rfl))), rfl⟩
          · have H3 : Hid (¬ (D = 0 ∨ (lst s).drop (k + 1) = [] ∨ P = 3)) := by show ¬ _; rw [Hn.out]; exact h3
            have h5 : (D == 0) = false := by simp; omega
            have h7 : ((k : Int) == (s.size : Int) - 1) = false := by simp; omega
            have h8 : (P == 3) = false := by simp; omega
            clear h3 Hn
            by_cases h9 : P = 0
            · obtain rfl := h9
              go_wp2
              go_round
              case rel => exact ⟨k + 1, V, 0, 1, 0, by omega, by omega, by omega, by omega, by omega, by omega, by omega, rfl, rfl, rfl, rfl, by go_num, by show _ = _; rw [hrel'.out, ip4_dot Hd.out H3.out]; rfl⟩
              case measure => simp [intOf]; omega
            · have h10 : (P == 0) = false := by simp; omega
              have H9 := Lib.hid h9
              go_wp2
              go_round
              case rel => exact ⟨k + 1, F, 0, P + 1, 0, by omega, by omega, by omega, by omega, by omega, by omega, by omega, rfl, rfl, rfl, rfl, by go_num, by show _ = _; rw [hrel'.out, ip4_dot Hd.out H3.out, if_neg H9.out]⟩
              case measure => simp [intOf]; omega
        · have hd' : ((s[k].toNat : Int) == 46) = false := by simpa using hd
          by_cases h4 : 48 ≤ (s[k].toNat : Int)
          · have h5 : ¬ (s[k].toNat : Int) ≤ 57 := by omega
            go_wp2
            go_ret2
            exact ⟨ret_ip4 (by rw [hrel'.out]; exact ip4_oth H1.out hd), rfl⟩
          · go_wp2
            go_ret2
            exact ⟨ret_ip4 (by rw [hrel'.out]; exact ip4_oth H1.out hd), rfl⟩
    · have hrel' : Hid (ip4 (lst s) = (F, decide (P = 3 ∧ 0 < D))) := by show _ = _; rw [hrel.out, drop_nil s k hlt]; rfl
      clear hrel
      by_cases h4 : P = 3
      · obtain rfl := h4
        go_wp2
        go_ret2
        exact ⟨ret_ip4 (by rw [hrel'.out]; simp), rfl⟩
      · have h5 : (P == 3) = false := by simp; omega
        go_wp2
        go_ret2
        exact ⟨ret_ip4 (by rw [hrel'.out]; simp [h4]), rfl⟩
end Go.Proofs.YtcofblepdfjhjaaGreatDoor
