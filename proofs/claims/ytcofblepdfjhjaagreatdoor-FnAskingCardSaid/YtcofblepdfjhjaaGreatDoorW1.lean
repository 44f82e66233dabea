/- Walks of small string functions. -/
import Derived.Test.YtcofblepdfjhjaaGreatDoorProg
import Derived.Test.YtcofblepdfjhjaaGreatDoorPlain
import Derived.WalkKit
import Derived.WalkSpells
import Derived.WalkLawsBesides
namespace Go.Proofs.YtcofblepdfjhjaaGreatDoor
open Go.RowKit
theorem ret_int {k : IntKind} {a b : Int} (h : a = b) : Ending.returned (.int k a) = .returned (.int k b) := by rw [h]
theorem ret_bool {a b : Bool} (h : a = b) : Ending.returned (.bool a) = .returned (.bool b) := by rw [h]
theorem ret_str {a b : ByteArray} (h : a = b) : Ending.returned (.string a) = .returned (.string b) := by rw [h]
theorem beqT {a b : Int} (h : (a == b) = true) : a = b := by simpa using h
theorem beqF {a b : Int} (h : (a == b) = false) : ¬ a = b := by simpa using h
set_option maxHeartbeats 400000 in
theorem zzIndex_any (s : ByteArray) (n : Int) (w : World) (hs : s.size ≤ 9223372036854775807) :
    Calls Tryz.prog 89 #[.string s, .int .u8 n] w fun e w' => e = .returned (.int .i64 (idx n (lst s))) ∧ w = w' := by
  go_enter Tryz.func89, Tryz.ntmps89
  go_wp2
  go_loop [5] (fun i => ∃ k : Nat, k ≤ s.size ∧ i = .int .i64 k ∧ Hid (idx n (lst s) = idxGo n k ((lst s).drop k))) (fun i => s.size - (intOf i).toNat)
  case atStart => exact ⟨0, Nat.zero_le _, rfl, rfl⟩
  case round =>
    obtain ⟨k, hk, rfl, hrel⟩ := hrel
    by_cases hlt : k < s.size
    · go_wp2
      · have h1 := beqT (by assumption)
        go_ret
        exact ⟨ret_int (by rw [hrel.out, drop_cons s k hlt, idxGo, if_pos h1]), rfl⟩
      · have h1 := beqF (by assumption)
        go_round
        case rel => exact ⟨k + 1, by omega, by go_num, by rw [hrel.out, drop_cons s k hlt, idxGo, if_neg h1]; rfl⟩
        case measure => simp [intOf]; omega
    · go_wp2
      go_ret
      exact ⟨ret_int (by rw [hrel.out, drop_nil s k hlt]; rfl), rfl⟩
set_option maxHeartbeats 400000 in
theorem zzLastIndex_any (s : ByteArray) (n : Int) (w : World) (hs : s.size ≤ 9223372036854775807) :
    Calls Tryz.prog 77 #[.string s, .int .u8 n] w fun e w' => e = .returned (.int .i64 (lastIdx n (lst s))) ∧ w = w' := by
  go_enter Tryz.func77, Tryz.ntmps77
  go_wp2
  go_loop [5] (fun i => ∃ k : Nat, k ≤ s.size ∧ i = .int .i64 ((k : Int) - 1) ∧ Hid (lastIdx n (lst s) = lastGo n (lst s) k)) (fun i => (intOf i + 1).toNat)
  case atStart => exact ⟨s.size, Nat.le_refl _, rfl, by show _ = _; rw [← lst_len]; rfl⟩
  case round =>
    obtain ⟨k, hk, rfl, hrel⟩ := hrel
    match k, hk, hrel with
    | 0, hk, hrel =>
      go_wp2
      go_ret
      exact ⟨ret_int (by rw [hrel.out]; rfl), rfl⟩
    | k + 1, hk, hrel =>
      have hlt : k < s.size := by omega
      have e1 : ((k + 1 : Nat) : Int) - 1 = (k : Int) := by omega
      rw [e1]
      have hg : Hid ((lst s).getD k 0 = s[k]) := by show _ = _; rw [List.getD_eq_getElem?_getD, lst_get s k hlt]; rfl
      go_wp2
      · have h1 := beqT (by assumption)
        go_ret
        exact ⟨ret_int (by rw [hrel.out, lastGo, hg.out, if_pos h1]), rfl⟩
      · have h1 := beqF (by assumption)
        go_round
        case rel => exact ⟨k, by omega, by go_num, by show _ = _; rw [hrel.out, lastGo, hg.out, if_neg h1]⟩
        case measure => simp [intOf]
set_option maxHeartbeats 400000 in
theorem zzCount_any (s : ByteArray) (n : Int) (w : World) (hs : s.size ≤ 9223372036854775807) :
    Calls Tryz.prog 87 #[.string s, .int .u8 n] w fun e w' => e = .returned (.int .i64 (cnt n (lst s))) ∧ w = w' := by
  go_enter Tryz.func87, Tryz.ntmps87
  go_wp2
  go_loop [5, 6] (fun c i => ∃ (k : Nat) (q : Int), k ≤ s.size ∧ 0 ≤ q ∧ q ≤ k ∧ i = .int .i64 k ∧ c = .int .i64 q ∧ Hid (cnt n (lst s) = cntGo n q ((lst s).drop k))) (fun _ i => s.size - (intOf i).toNat)
  case atStart => exact ⟨0, 0, Nat.zero_le _, by omega, by omega, rfl, rfl, rfl⟩
  case round =>
    obtain ⟨k, q, hk, hq0, hq, rfl, rfl, hrel⟩ := hrel
    by_cases hlt : k < s.size
    · go_wp2
      · have h1 := beqT (by assumption)
        go_round
        case rel => exact ⟨k + 1, q + 1, by omega, by omega, by omega, by go_num, rfl, by show _ = _; rw [hrel.out, drop_cons s k hlt, cntGo, if_pos h1]⟩
        case measure => simp [intOf]; omega
      · have h1 := beqF (by assumption)
        go_round
        case rel => exact ⟨k + 1, q, by omega, by omega, by omega, by go_num, rfl, by show _ = _; rw [hrel.out, drop_cons s k hlt, cntGo, if_neg h1]⟩
        case measure => simp [intOf]; omega
    · go_wp2
      go_ret
      exact ⟨ret_int (by rw [hrel.out, drop_nil s k hlt]; rfl), rfl⟩
set_option maxHeartbeats 400000 in
theorem zzPrint_any (s : ByteArray) (w : World) (hs : s.size ≤ 9223372036854775807) :
    Calls Tryz.prog 90 #[.string s] w fun e w' => e = .returned (.bool (printB (lst s))) ∧ w = w' := by
  go_enter Tryz.func90, Tryz.ntmps90
  go_wp2
  go_loop [3] (fun i => ∃ k : Nat, k ≤ s.size ∧ i = .int .i64 k ∧ Hid (printB (lst s) = printB ((lst s).drop k))) (fun i => s.size - (intOf i).toNat)
  case atStart => exact ⟨0, Nat.zero_le _, rfl, rfl⟩
  case round =>
    obtain ⟨k, hk, rfl, hrel⟩ := hrel
    by_cases hlt : k < s.size
    · by_cases h1 : (s[k].toNat : Int) < 32
      · go_wp2
        go_ret
        exact ⟨ret_bool (by rw [hrel.out, drop_cons s k hlt, printB, if_pos (Or.inl h1)]), rfl⟩
      · by_cases h2 : 126 < (s[k].toNat : Int)
        · go_wp2
          go_ret
          exact ⟨ret_bool (by rw [hrel.out, drop_cons s k hlt, printB, if_pos (Or.inr h2)]), rfl⟩
        · go_wp2
          go_round
          case rel => exact ⟨k + 1, by omega, by go_num, by show _ = _; rw [hrel.out, drop_cons s k hlt, printB, if_neg (by omega)]⟩
          case measure => simp [intOf]; omega
    · go_wp2
      go_ret
      exact ⟨ret_bool (by rw [hrel.out, drop_nil s k hlt]; rfl), rfl⟩
set_option maxHeartbeats 400000 in
theorem zzASCII_any (s : ByteArray) (w : World) (hs : s.size ≤ 9223372036854775807) :
    Calls Tryz.prog 73 #[.string s] w fun e w' => e = .returned (.bool (asciiB (lst s))) ∧ w = w' := by
  go_enter Tryz.func73, Tryz.ntmps73
  go_wp2
  go_loop [3] (fun i => ∃ k : Nat, k ≤ s.size ∧ i = .int .i64 k ∧ Hid (asciiB (lst s) = asciiB ((lst s).drop k))) (fun i => s.size - (intOf i).toNat)
  case atStart => exact ⟨0, Nat.zero_le _, rfl, rfl⟩
  case round =>
    obtain ⟨k, hk, rfl, hrel⟩ := hrel
    by_cases hlt : k < s.size
    · by_cases h1 : 127 < (s[k].toNat : Int)
      · go_wp2
        go_ret
        exact ⟨ret_bool (by rw [hrel.out, drop_cons s k hlt, asciiB, if_pos h1]), rfl⟩
      · go_wp2
        go_round
        case rel => exact ⟨k + 1, by omega, by go_num, by show _ = _; rw [hrel.out, drop_cons s k hlt, asciiB, if_neg h1]⟩
        case measure => simp [intOf]; omega
    · go_wp2
      go_ret
      exact ⟨ret_bool (by rw [hrel.out, drop_nil s k hlt]; rfl), rfl⟩
end Go.Proofs.YtcofblepdfjhjaaGreatDoor
