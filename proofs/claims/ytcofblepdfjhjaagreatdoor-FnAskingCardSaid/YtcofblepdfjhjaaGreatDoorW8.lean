/- Walks: names (the reference's functions). -/
import Derived.Test.YtcofblepdfjhjaaGreatDoorW7
namespace Go.Proofs.YtcofblepdfjhjaaGreatDoor
open Go.RowKit
set_option maxRecDepth 100000 in
set_option maxHeartbeats 1600000 in
theorem isName_any (s : ByteArray) (w : World) (hs : s.size ≤ 4294967296) :
    Calls Tryz.prog 33 #[.string s] w fun e w' => e = .returned (.bool (isNameB (lst s))) ∧ Below w.heap.size w w' := by
  go_enter Tryz.func33, Tryz.ntmps33
  go_wp2_with fail
  refine (labels_any s w hs).mono ?_
  have hI := labIn s
  rintro e w1 ⟨v, rfl, ⟨b, cap, rfl, hbB, hbs, hc⟩, hb⟩
  have hF : isNameB (lst s) = ((labels (lst s)).map str).all (fun s => nameLab (lst s)) := by rw [all_map_str]; rfl
  generalize (labels (lst s)).map str = L at *
  have HC := Lib.hid hc
  have HF := Lib.hid hF
  clear hc hF
  have hlen := hI.len
  have HI := Lib.hid hI
  clear hI
  go_wp2_with fail
  go_loop [10] (fun i => ∃ k : Nat, k ≤ L.length ∧ i = .int .i64 k ∧ Hid (L.all (fun s => nameLab (lst s)) = (L.drop k).all fun s => nameLab (lst s))) (fun i => L.length - (intOf i).toNat)
  case atStart => exact ⟨0, Nat.zero_le _, rfl, rfl⟩
  case round =>
    obtain ⟨k, hk, rfl, hrel⟩ := hrel
    by_cases hlt : k < L.length
    · have hcell := HC.out k L[k] (List.getElem?_eq_getElem hlt)
      have hsm : L[k].size ≤ 9223372036854775807 := by have := HI.out.small L[k] (List.getElem_mem hlt); omega
      have hrel' : Hid (L.all (fun s => nameLab (lst s)) = (nameLab (lst L[k]) && (L.drop (k + 1)).all fun s => nameLab (lst s))) := by show _ = _; rw [hrel.out, all_drop _ L k hlt]
      clear hrel
      generalize L[k] = x at *
      have hxl := lst_len x
      by_cases c1 : x.size = 0
      · have c1' : x.toList.isEmpty = true := by rw [empty_lst]; simp [← size_zero, c1]
        have Hlab : Hid (nameLab (lst x) = false) := by show _ = _; rw [nameLab, decide_eq_false (fun h => h.1 ((size_zero x).1 c1))]; rfl
        clear hxl
        go_wp2
        go_ret
        exact ⟨ret_bool (by rw [HF.out, hrel'.out, Hlab.out]; rfl), hb⟩
      · have c1' : x.toList.isEmpty = false := by rw [empty_lst]; simp [← size_zero, c1]
        have h0 : 0 < x.size := by omega
        have hg := getD_lst x 0 h0
        have hx1 : x.size - 1 < x.size := by omega
        have hg2 := getD_lst x (x.size - 1) hx1
        by_cases c2 : ((x[0]'h0).toNat : Int) = 45
        · have c2' : (((x[0]'h0).toNat : Int) == 45) = true := by simpa using c2
          have Hlab : Hid (nameLab (lst x) = false) := by show _ = _; rw [nameLab, hg, decide_eq_false (fun h => h.2.1 c2)]; rfl
          clear hxl hg hg2 c2
          go_wp2
          go_ret
          exact ⟨ret_bool (by rw [HF.out, hrel'.out, Hlab.out]; rfl), hb⟩
        · have c2' : (((x[0]'h0).toNat : Int) == 45) = false := by simpa using c2
          by_cases c3 : ((x[x.size - 1]'hx1).toNat : Int) = 45
          · have c3' : (((x[x.size - 1]'hx1).toNat : Int) == 45) = true := by simpa using c3
            have Hlab : Hid (nameLab (lst x) = false) := by show _ = _; rw [nameLab, hxl, hg2, decide_eq_false (fun h => h.2.2 c3)]; rfl
            clear hxl hg hg2 c2 c3
            go_wp2
            go_ret
            exact ⟨ret_bool (by rw [HF.out, hrel'.out, Hlab.out]; rfl), hb⟩
          · have c3' : (((x[x.size - 1]'hx1).toNat : Int) == 45) = false := by simpa using c3
            have Hlab : Hid (nameLab (lst x) = allName (lst x)) := by show _ = _; rw [nameLab, hxl, hg, hg2, decide_eq_true (show lst x ≠ [] ∧ _ ∧ _ from ⟨fun h => c1 ((size_zero x).2 h), c2, c3⟩), Bool.true_and]
            clear hxl hg hg2 c2 c3
            go_wp2_with fail
            go_loop [31] (fun i => ∃ q : Nat, q ≤ x.size ∧ i = .int .i64 q ∧ Hid (allName (lst x) = allName ((lst x).drop q))) (fun i => x.size - (intOf i).toNat)
            case atStart => exact ⟨0, Nat.zero_le _, rfl, rfl⟩
            case round =>
              obtain ⟨q, hq, rfl, hrq⟩ := hrel
              by_cases hql : q < x.size
              · have hrq' : Hid (allName (lst x) = if nameCh x[q] = true then allName ((lst x).drop (q + 1)) else false) := by show _ = _; rw [hrq.out, drop_cons x q hql]; rfl
                clear hrq
                by_cases o1 : bits BinOp.or IntKind.u8 (x[q].toNat : Int) 32 < 97
                · have o1' : ¬ 97 ≤ bits BinOp.or IntKind.u8 (x[q].toNat : Int) 32 := by omega
                  by_cases n1 : (x[q].toNat : Int) < 48
                  · by_cases n2 : (x[q].toNat : Int) = 45
                    · have n2' : ((x[q].toNat : Int) != 45) = false := by simp [n2]
                      have N2 := Lib.hid n2
                      clear n2
                      go_wp2
                      go_round
                      case rel => exact ⟨q + 1, by omega, by go_num, by show _ = _; rw [hrq'.out, if_pos (by rw [nameCh, decide_eq_true_iff]; exact Or.inr (Or.inr N2.out))]⟩
                      case measure => simp [intOf]; omega
                    · have n2' : ((x[q].toNat : Int) != 45) = true := by simpa using n2
                      go_wp2
                      go_ret
                      exact ⟨ret_bool (by rw [HF.out, hrel'.out, Hlab.out, hrq'.out, if_neg (by rw [nameCh, decide_eq_true_iff, ← or_bits]; omega)]; rfl), hb⟩
                  · by_cases n3 : 57 < (x[q].toNat : Int)
                    · have n2' : ((x[q].toNat : Int) != 45) = true := by simp; omega
                      go_wp2
                      go_ret
                      exact ⟨ret_bool (by rw [HF.out, hrel'.out, Hlab.out, hrq'.out, if_neg (by rw [nameCh, decide_eq_true_iff, ← or_bits]; omega)]; rfl), hb⟩
                    · go_wp2
                      go_round
                      case rel => exact ⟨q + 1, by omega, by go_num, by show _ = _; rw [hrq'.out, if_pos (by rw [nameCh, decide_eq_true_iff, ← or_bits]; omega)]⟩
                      case measure => simp [intOf]; omega
                · by_cases o2 : 122 < bits BinOp.or IntKind.u8 (x[q].toNat : Int) 32
                  · by_cases n1 : (x[q].toNat : Int) < 48
                    · by_cases n2 : (x[q].toNat : Int) = 45
                      · have n2' : ((x[q].toNat : Int) != 45) = false := by simp [n2]
                        have N2 := Lib.hid n2
                        clear n2
                        go_wp2
                        go_round
                        case rel => exact ⟨q + 1, by omega, by go_num, by show _ = _; rw [hrq'.out, if_pos (by rw [nameCh, decide_eq_true_iff]; exact Or.inr (Or.inr N2.out))]⟩
                        case measure => simp [intOf]; omega
                      · have n2' : ((x[q].toNat : Int) != 45) = true := by simpa using n2
                        go_wp2
                        go_ret
                        exact ⟨ret_bool (by rw [HF.out, hrel'.out, Hlab.out, hrq'.out, if_neg (by rw [nameCh, decide_eq_true_iff, ← or_bits]; omega)]; rfl), hb⟩
                    · by_cases n3 : 57 < (x[q].toNat : Int)
                      · have n2' : ((x[q].toNat : Int) != 45) = true := by simp; omega
                        go_wp2
                        go_ret
                        exact ⟨ret_bool (by rw [HF.out, hrel'.out, Hlab.out, hrq'.out, if_neg (by rw [nameCh, decide_eq_true_iff, ← or_bits]; omega)]; rfl), hb⟩
                      · go_wp2
                        go_round
                        case rel => exact ⟨q + 1, by omega, by go_num, by show _ = _; rw [hrq'.out, if_pos (by rw [nameCh, decide_eq_true_iff, ← or_bits]; omega)]⟩
                        case measure => simp [intOf]; omega
                  · go_wp2
                    go_round
                    case rel => exact ⟨q + 1, by omega, by go_num, by show _ = _; rw [hrq'.out, if_pos (by rw [nameCh, decide_eq_true_iff, ← or_bits]; omega)]⟩
                    case measure => simp [intOf]; omega
              · go_wp2
                go_round
                case rel => exact ⟨k + 1, by omega, by go_num, by show _ = _; rw [hrel'.out, Hlab.out, hrq.out, drop_nil x q hql]; rfl⟩
                case measure => simp [intOf]; omega
    · go_wp2
      go_ret
      exact ⟨ret_bool (by rw [HF.out, hrel.out, all_dropped _ L k hlt]), hb⟩
end Go.Proofs.YtcofblepdfjhjaaGreatDoor
