/- Walks: words, paths, ports, hosts (the reference's functions). -/
import Derived.Test.YtcofblepdfjhjaaGreatDoorW8
namespace Go.Proofs.YtcofblepdfjhjaaGreatDoor
open Go.RowKit
set_option maxRecDepth 100000 in
set_option maxHeartbeats 800000 in
theorem isWord_any (s : ByteArray) (w : World) (hs : s.size ≤ 9223372036854775807) :
    Calls Tryz.prog 22 #[.string s] w fun e w' => e = .returned (.bool (allWord (lst s))) ∧ w = w' := by
  go_enter Tryz.func22, Tryz.ntmps22
  go_wp2
  go_loop [7] (fun i => ∃ q : Nat, q ≤ s.size ∧ i = .int .i64 q ∧ Hid (allWord (lst s) = allWord ((lst s).drop q))) (fun i => s.size - (intOf i).toNat)
  case atStart => exact ⟨0, Nat.zero_le _, rfl, rfl⟩
  case round =>
    obtain ⟨q, hq, rfl, hrq⟩ := hrel
    by_cases hql : q < s.size
    · have hrq' : Hid (allWord (lst s) = if wordCh s[q] = true then allWord ((lst s).drop (q + 1)) else false) := by show _ = _; rw [hrq.out, drop_cons s q hql]; rfl
      clear hrq
      by_cases o1 : bits BinOp.or IntKind.u8 (s[q].toNat : Int) 32 < 97
      · have o1' : ¬ 97 ≤ bits BinOp.or IntKind.u8 (s[q].toNat : Int) 32 := by omega
        by_cases n1 : (s[q].toNat : Int) < 48
        · go_wp2
          go_ret
          exact ⟨ret_bool (by rw [hrq'.out, if_neg (by rw [wordCh, decide_eq_true_iff, ← or_bits] <;> omega)]), rfl⟩
        · by_cases n3 : 57 < (s[q].toNat : Int)
          · go_wp2
            go_ret
            exact ⟨ret_bool (by rw [hrq'.out, if_neg (by rw [wordCh, decide_eq_true_iff, ← or_bits] <;> omega)]), rfl⟩
          · go_wp2
            go_round
            case rel => exact ⟨q + 1, by omega, by go_num, by show _ = _; rw [hrq'.out, if_pos (by rw [wordCh, decide_eq_true_iff, ← or_bits] <;> omega)]⟩
            case measure => simp [intOf]; omega
      · by_cases o2 : 122 < bits BinOp.or IntKind.u8 (s[q].toNat : Int) 32
        · by_cases n1 : (s[q].toNat : Int) < 48
          · go_wp2
            go_ret
            exact ⟨ret_bool (by rw [hrq'.out, if_neg (by rw [wordCh, decide_eq_true_iff, ← or_bits] <;> omega)]), rfl⟩
          · by_cases n3 : 57 < (s[q].toNat : Int)
            · go_wp2
              go_ret
              exact ⟨ret_bool (by rw [hrq'.out, if_neg (by rw [wordCh, decide_eq_true_iff, ← or_bits] <;> omega)]), rfl⟩
            · go_wp2
              go_round
              case rel => exact ⟨q + 1, by omega, by go_num, by show _ = _; rw [hrq'.out, if_pos (by rw [wordCh, decide_eq_true_iff, ← or_bits] <;> omega)]⟩
              case measure => simp [intOf]; omega
        · go_wp2
          go_round
          case rel => exact ⟨q + 1, by omega, by go_num, by show _ = _; rw [hrq'.out, if_pos (by rw [wordCh, decide_eq_true_iff, ← or_bits] <;> omega)]⟩
          case measure => simp [intOf]; omega
    · go_wp2
      go_ret
      exact ⟨ret_bool (by rw [hrq.out, drop_nil s q hql]; rfl), rfl⟩
set_option maxRecDepth 100000 in
set_option maxHeartbeats 800000 in
theorem isPath_any (s : ByteArray) (w : World) (hs : s.size ≤ 9223372036854775807) :
    Calls Tryz.prog 21 #[.string s] w fun e w' => e = .returned (.bool (isPathB (lst s))) ∧ w = w' := by
  go_enter Tryz.func21, Tryz.ntmps21
  go_wp2
  go_loop [7] (fun i => ∃ q : Nat, q ≤ s.size ∧ i = .int .i64 q ∧ Hid (allPath (lst s) = allPath ((lst s).drop q))) (fun i => s.size - (intOf i).toNat)
  case atStart => exact ⟨0, Nat.zero_le _, rfl, rfl⟩
  case round =>
    obtain ⟨q, hq, rfl, hrq⟩ := hrel
    by_cases hql : q < s.size
    · have hrq' : Hid (allPath (lst s) = if pathCh s[q] = true then allPath ((lst s).drop (q + 1)) else false) := by show _ = _; rw [hrq.out, drop_cons s q hql]; rfl
      clear hrq
      rcases (show ((s[q].toNat : Int) < 45) ∨ ((s[q].toNat : Int) = 45) ∨ ((s[q].toNat : Int) = 46) ∨ ((s[q].toNat : Int) = 47) ∨ (48 ≤ (s[q].toNat : Int) ∧ (s[q].toNat : Int) ≤ 57) ∨ (58 ≤ (s[q].toNat : Int) ∧ (s[q].toNat : Int) ≤ 96) ∨ (97 ≤ (s[q].toNat : Int) ∧ (s[q].toNat : Int) ≤ 122) ∨ (122 < (s[q].toNat : Int)) from by omega) with n1 | n1 | n1 | n1 | ⟨n1, n2⟩ | ⟨n1, n2⟩ | ⟨n1, n2⟩ | n1
      · have n47 : ((s[q].toNat : Int) != 47) = true := by simp; omega
        have n45 : ((s[q].toNat : Int) != 45) = true := by simp; omega
        go_wp2
        go_ret
        exact ⟨ret_bool (by rw [isPathB, hrq'.out, if_neg (by rw [pathCh, decide_eq_true_iff]; omega)]; rfl), rfl⟩
      · have HR := Lib.hid (show pathCh s[q] = true from by simp [pathCh, n1])
        have n47 : ((s[q].toNat : Int) != 47) = true := by simp [n1]
        have n45 : ((s[q].toNat : Int) != 45) = false := by simp [n1]
        have n48 : (s[q].toNat : Int) < 48 := by omega
        clear n1
        go_wp2
        go_round
        case rel => exact ⟨q + 1, by omega, by go_num, by show _ = _; rw [hrq'.out, if_pos (HR.out)]⟩
        case measure => simp [intOf]; omega
      · have HR := Lib.hid (show pathCh s[q] = false from by simp [pathCh, n1])
        have n47 : ((s[q].toNat : Int) != 47) = true := by simp [n1]
        have n45 : ((s[q].toNat : Int) != 45) = true := by simp [n1]
        have n48 : (s[q].toNat : Int) < 48 := by omega
        clear n1
        go_wp2
        go_ret
        exact ⟨ret_bool (by rw [isPathB, hrq'.out, if_neg (by rw [HR.out]; simp)]; rfl), rfl⟩
      · have HR := Lib.hid (show pathCh s[q] = true from by simp [pathCh, n1])
        have n47 : ((s[q].toNat : Int) != 47) = false := by simp [n1]
        have n45 : ((s[q].toNat : Int) != 45) = true := by simp [n1]
        have n48 : (s[q].toNat : Int) < 48 := by omega
        clear n1
        go_wp2
        go_round
        case rel => exact ⟨q + 1, by omega, by go_num, by show _ = _; rw [hrq'.out, if_pos (HR.out)]⟩
        case measure => simp [intOf]; omega
      · have n47 : ((s[q].toNat : Int) != 47) = true := by simp; omega
        have n45 : ((s[q].toNat : Int) != 45) = true := by simp; omega
        go_wp2
        go_round
        case rel => exact ⟨q + 1, by omega, by go_num, by show _ = _; rw [hrq'.out, if_pos (by rw [pathCh, decide_eq_true_iff]; omega)]⟩
        case measure => simp [intOf]; omega
      · have n47 : ((s[q].toNat : Int) != 47) = true := by simp; omega
        have n45 : ((s[q].toNat : Int) != 45) = true := by simp; omega
        go_wp2
        go_ret
        exact ⟨ret_bool (by rw [isPathB, hrq'.out, if_neg (by rw [pathCh, decide_eq_true_iff]; omega)]; rfl), rfl⟩
      · have n47 : ((s[q].toNat : Int) != 47) = true := by simp; omega
        have n45 : ((s[q].toNat : Int) != 45) = true := by simp; omega
        go_wp2
        go_round
        case rel => exact ⟨q + 1, by omega, by go_num, by show _ = _; rw [hrq'.out, if_pos (by rw [pathCh, decide_eq_true_iff]; omega)]⟩
        case measure => simp [intOf]; omega
      · have n47 : ((s[q].toNat : Int) != 47) = true := by simp; omega
        have n45 : ((s[q].toNat : Int) != 45) = true := by simp; omega
        go_wp2
        go_ret
        exact ⟨ret_bool (by rw [isPathB, hrq'.out, if_neg (by rw [pathCh, decide_eq_true_iff]; omega)]; rfl), rfl⟩
    · have HA : Hid (allPath (lst s) = true) := by show _ = _; rw [hrq.out, drop_nil s q hql]; rfl
      clear hrq
      by_cases c1 : s.size = 0
      · have c1' : s.toList.isEmpty = true := by rw [empty_lst]; simp [← size_zero, c1]
        have HP : Hid (isPathB (lst s) = true) := by show _ = _; rw [isPathB, HA.out, decide_eq_true (Or.inl ((size_zero s).1 c1))]; rfl
        clear HA
        go_wp2
        go_ret
        exact ⟨ret_bool HP.out.symm, rfl⟩
      · have c1' : s.toList.isEmpty = false := by rw [empty_lst]; simp [← size_zero, c1]
        have h0 : 0 < s.size := by omega
        have HP : Hid (isPathB (lst s) = ((s[0].toNat : Int) == 47)) := by
          show _ = _
          rw [isPathB, HA.out, getD_lst s 0 h0, Bool.true_and, Bool.eq_iff_iff, decide_eq_true_iff, beq_iff_eq]
          exact ⟨fun h => h.resolve_left (fun e => c1 ((size_zero s).2 e)), Or.inr⟩
        clear HA
        go_wp2
        go_ret
        exact ⟨ret_bool HP.out.symm, rfl⟩
set_option maxRecDepth 100000 in
set_option maxHeartbeats 800000 in
theorem split_any (s : ByteArray) (w : World) (hs : s.size ≤ 9223372036854775807) :
    Calls Tryz.prog 19 #[.string s] w fun e w' => e = .returned (.tuple #[.string (str (splitB (lst s)).1), .string (str (splitB (lst s)).2)]) ∧ Below w.heap.size w w' := by
  go_enter Tryz.func19, Tryz.ntmps19
  go_wp2
  go_loop [7] (fun i => ∃ k : Nat, k ≤ s.size ∧ i = .int .i64 k ∧ Hid (idx 58 (lst s) = idxGo 58 k ((lst s).drop k))) (fun i => s.size - (intOf i).toNat)
  case atStart => exact ⟨0, Nat.zero_le _, rfl, rfl⟩
  case round =>
    obtain ⟨k, hk, rfl, hrel⟩ := hrel
    by_cases hlt : k < s.size
    · by_cases h1 : (s[k].toNat : Int) = 58
      · have h1' : ((s[k].toNat : Int) == 58) = true := by simpa using h1
        have hi : idx 58 (lst s) = (k : Int) := by rw [hrel.out, drop_cons s k hlt, idxGo, if_pos h1]
        have HS : Hid (s.extract 0 k = str (splitB (lst s)).1 ∧ s.extract (k + 1) s.size = str (splitB (lst s)).2) := by
          have hn : ¬ (k : Int) = -1 := by omega
          refine ⟨lst_inj ?_, lst_inj ?_⟩
          · rw [extract_to, lst_str, splitB, hi, if_neg hn]; rfl
          · rw [extract_from, lst_str, splitB, hi, if_neg hn]; rfl
        have hk1 : k + 1 ≤ s.size := by omega
        clear hrel h1 hi
        go_wp2
        go_region
        all_goals go_wp2
        all_goals go_ret2
        all_goals exact ⟨by simp [HS.out.1, HS.out.2], (Below.refl _ _).drew⟩
      · have h1' : ((s[k].toNat : Int) == 58) = false := by simpa using h1
        have hrel' : Hid (idx 58 (lst s) = idxGo 58 (k + 1) ((lst s).drop (k + 1))) := by show _ = _; rw [hrel.out, drop_cons s k hlt, idxGo, if_neg h1]
        clear hrel h1
        go_wp2
        go_round
        case rel => exact ⟨k + 1, by omega, by go_num, hrel'⟩
        case measure => simp [intOf]; omega
    · have hi : idx 58 (lst s) = -1 := by rw [hrel.out, drop_nil s k hlt]; rfl
      have HS : Hid (splitB (lst s) = (lst s, [48])) := by show _ = _; rw [splitB, if_pos hi]
      clear hrel hi
      go_wp2
      go_ret2
      exact ⟨by rw [HS.out]; simp only [str_lst]; rfl, Below.refl _ _⟩
end Go.Proofs.YtcofblepdfjhjaaGreatDoor
