/- Walks: public suffixes, the jar's keys. -/
import Derived.Test.YtcofblepdfjhjaaGreatDoorW16
namespace Go.Proofs.YtcofblepdfjhjaaGreatDoor
open Go.RowKit
/-- Whether a domain is a suffix or ends with it behind a dot. -/
def endsB (d s : ByteArray) : Bool := decide (lst d = lst s) || dotSuf (lst d) (lst s)
def pubGo (d : ByteArray) : Option ByteArray → List ByteArray → Option ByteArray
  | o, [] => o
  | none, s :: r => pubGo d (if endsB d s then some s else none) r
  | some b, s :: r => pubGo d (if endsB d s && decide (b.size < s.size) then some s else some b) r
def afterDot (d : ByteArray) : ByteArray := str ((lst d).drop (lastIdx 46 (lst d) + 1).toNat)
/-- The public suffix of a domain. -/
def pubSuf (sufs : List ByteArray) (d : ByteArray) : ByteArray := (pubGo d none sufs).getD (afterDot d)
theorem afterDot_none (d : ByteArray) (h : lastIdx 46 (lst d) = -1) : afterDot d = d := by rw [afterDot, h]; exact str_lst d
set_option maxRecDepth 100000 in
set_option maxHeartbeats 1600000 in
theorem PublicSuffix_any (v : Value) (sufs : List ByteArray) (B : Nat) (d : ByteArray) (w : World) (h : StrsAt w B v sufs) (hl : sufs.length ≤ 2147483647) (hsz : ∀ x ∈ sufs, x.size ≤ 2147483647) (hd : d.size ≤ 9223372036854775806) :
    Calls Tryz.prog 125 #[v, .string d] w fun r w' => r = .returned (.string (pubSuf sufs d)) ∧ w = w' := by
  obtain ⟨ao, b, off, cap, rfl, ha, hc⟩ := h.ex
  clear h
  have HC := Lib.hid hc
  have HS := Lib.hid hsz
  have HA := Lib.hid ha
  clear hc hsz ha
  go_enter Tryz.func125, Tryz.ntmps125
  go_wp2
  go_loop [5, 6, 12] (fun bv fv i => ∃ (k : Nat) (o : Option ByteArray) (bs : ByteArray), k ≤ sufs.length ∧ i = .int .i64 k ∧ bv = .string bs ∧ fv = .bool o.isSome ∧ (∀ x, o = some x → x = bs ∧ x.size ≤ 2147483647) ∧ Hid (pubGo d none sufs = pubGo d o (sufs.drop k))) (fun _ _ i => sufs.length - (intOf i).toNat)
  case atStart => exact ⟨0, none, _, Nat.zero_le _, rfl, rfl, rfl, (fun x hx => by cases hx), rfl⟩
  case round =>
    obtain ⟨k, o, bs, hk, rfl, rfl, rfl, ho, hrel⟩ := hrel
    by_cases hlt : k < sufs.length
    · have hcell := strs_cell HC.out k hlt
      have hks := HS.out sufs[k] (List.getElem_mem hlt)
      obtain ⟨ha1, _⟩ := HA.out (by omega)
      subst ha1
      have hdrop : sufs.drop k = sufs[k] :: sufs.drop (k + 1) := List.drop_eq_getElem_cons hlt
      generalize sufs[k] = x at *
      cases he : endsB d x
      · have hrel' : Hid (pubGo d none sufs = pubGo d o (sufs.drop (k + 1))) := by
          show _ = _
          rw [hrel.out, hdrop]
          cases o <;> simp [pubGo, he]
        have He : Hid ((decide (lst d = lst x) || dotSuf (lst d) (lst x)) = false) := he
        clear hrel he hdrop
        cases o <;>
        · go_wp2_with fail
          refine (iends_any d x _ (by omega) (by omega)).mono ?_
          rintro r w' ⟨rfl, rfl⟩
          rw [He.out]
          go_wp2
          go_round
          case rel => exact ⟨k + 1, _, _, by omega, by go_num, rfl, rfl, ho, hrel'⟩
          case measure => simp [intOf]; omega
      · have He : Hid ((decide (lst d = lst x) || dotSuf (lst d) (lst x)) = true) := he
        cases o with
        | none =>
          have hrel' : Hid (pubGo d none sufs = pubGo d (some x) (sufs.drop (k + 1))) := by
            show _ = _
            rw [hrel.out, hdrop]
            simp [pubGo, he]
          clear hrel he hdrop
          go_wp2_with fail
          refine (iends_any d x _ (by omega) (by omega)).mono ?_
          rintro r w' ⟨rfl, rfl⟩
          rw [He.out]
          go_wp2
          go_round
          case rel => exact ⟨k + 1, some x, x, by omega, by go_num, rfl, rfl, fun y hy => by cases hy; exact ⟨rfl, hks⟩, hrel'⟩
          case measure => simp [intOf]; omega
        | some y =>
          obtain ⟨rfl, hys⟩ := ho y rfl
          by_cases hgt : y.size < x.size
          · have hrel' : Hid (pubGo d none sufs = pubGo d (some x) (sufs.drop (k + 1))) := by
              show _ = _
              rw [hrel.out, hdrop]
              simp [pubGo, he, hgt]
            clear hrel he hdrop ho
            go_wp2_with fail
            refine (iends_any d x _ (by omega) (by omega)).mono ?_
            rintro r w' ⟨rfl, rfl⟩
            rw [He.out]
            go_wp2
            go_round
            case rel => exact ⟨k + 1, some x, x, by omega, by go_num, rfl, rfl, fun y hy => by cases hy; exact ⟨rfl, hks⟩, hrel'⟩
            case measure => simp [intOf]; omega
          · have hrel' : Hid (pubGo d none sufs = pubGo d (some y) (sufs.drop (k + 1))) := by
              show _ = _
              rw [hrel.out, hdrop]
              simp [pubGo, he, hgt]
            clear hrel he hdrop ho
            go_wp2_with fail
            refine (iends_any d x _ (by omega) (by omega)).mono ?_
            rintro r w' ⟨rfl, rfl⟩
            rw [He.out]
            go_wp2
            go_round
            case rel => exact ⟨k + 1, some y, y, by omega, by go_num, rfl, rfl, fun z hz => by cases hz; exact ⟨rfl, hys⟩, hrel'⟩
            case measure => simp [intOf]; omega
    · have hend : sufs.drop k = [] := List.drop_eq_nil_of_le (by omega)
      cases o with
      | some y =>
        obtain ⟨rfl, _⟩ := ho y rfl
        have HP : Hid (y = pubSuf sufs d) := by show _ = _; rw [pubSuf, hrel.out, hend]; rfl
        clear hrel hend
        go_wp2
        go_ret
        exact ⟨ret_str HP.out, rfl⟩
      | none =>
        have HP : Hid (pubSuf sufs d = afterDot d) := by show _ = _; rw [pubSuf, hrel.out, hend]; rfl
        clear hrel hend ho
        go_wp2
        go_loop [9] (fun i => ∃ q : Nat, q ≤ d.size ∧ i = .int .i64 ((q : Int) - 1) ∧ Hid (lastIdx 46 (lst d) = lastGo 46 (lst d) q)) (fun i => (intOf i + 1).toNat)
        case atStart => exact ⟨d.size, Nat.le_refl _, rfl, by show _ = _; rw [← lst_len]; rfl⟩
        case round =>
          obtain ⟨q, hq, rfl, hrel⟩ := hrel
          cases q with
          | zero =>
            have HD : Hid (afterDot d = d) := afterDot_none d hrel.out
            clear hrel
            go_wp2
            go_ret
            exact ⟨ret_str (by rw [HP.out, HD.out]), rfl⟩
          | succ q =>
            have e1 : ((q + 1 : Nat) : Int) - 1 = (q : Int) := by omega
            rw [e1]
            have hqs : q < d.size := by omega
            by_cases hx : (d[q].toNat : Int) = 46
            · have hx' : ((d[q].toNat : Int) == 46) = true := by simp [hx]
              have HD : Hid (d.extract (q + 1) d.size = afterDot d) := by
                show _ = _
                refine lst_inj ?_
                rw [extract_from, afterDot, lst_str, hrel.out, lastGo, getD_lst d q hqs, if_pos hx]; rfl
              have hq1 : q + 1 ≤ d.size := hqs
              clear hrel hx
              go_wp2
              go_ret
              exact ⟨ret_str (by rw [HP.out, HD.out]), rfl⟩
            · have hx' : ((d[q].toNat : Int) == 46) = false := by simp [hx]
              have hrel' : Hid (lastIdx 46 (lst d) = lastGo 46 (lst d) q) := by
                show _ = _
                rw [hrel.out, lastGo, getD_lst d q hqs, if_neg hx]
              clear hrel hx
              go_wp2
              go_round
              case rel => exact ⟨q, by omega, rfl, hrel'⟩
              case measure => simp [intOf]
end Go.Proofs.YtcofblepdfjhjaaGreatDoor
