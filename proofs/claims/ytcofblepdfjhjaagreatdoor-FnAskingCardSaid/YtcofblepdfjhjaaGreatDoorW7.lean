/- Walks: addresses and names (the reference's functions). -/
import Derived.Test.YtcofblepdfjhjaaGreatDoorW6
namespace Go.Proofs.YtcofblepdfjhjaaGreatDoor
open Go.RowKit
set_option maxRecDepth 100000 in
set_option maxHeartbeats 1600000 in
theorem isAddress_any (s : ByteArray) (w : World) (hs : s.size ≤ 4294967296) :
    Calls Tryz.prog 17 #[.string s] w fun e w' => e = .returned (.bool (isAddrB (lst s))) ∧ Below w.heap.size w w' := by
  go_enter Tryz.func17, Tryz.ntmps17
  go_wp2_with fail
  refine (labels_any s w hs).mono ?_
  have hI := labIn s
  rintro e w1 ⟨v, rfl, ⟨b, cap, rfl, hbB, hbs, hc⟩, hb⟩
  have hF : isAddrB (lst s) = (((labels (lst s)).map str).all (fun s => addrLab (lst s)) && decide (((labels (lst s)).map str).length = 4)) := by rw [all_map_str, List.length_map]; rfl
  generalize (labels (lst s)).map str = L at *
  have HC := Lib.hid hc
  have HF := Lib.hid hF
  clear hc hF
  have hlen := hI.len
  have HI := Lib.hid hI
  clear hI
  go_wp2_with fail
  go_loop [10] (fun i => ∃ k : Nat, k ≤ L.length ∧ i = .int .i64 k ∧ Hid (L.all (fun s => addrLab (lst s)) = (L.drop k).all fun s => addrLab (lst s))) (fun i => L.length - (intOf i).toNat)
  case atStart => exact ⟨0, Nat.zero_le _, rfl, rfl⟩
  case round =>
    obtain ⟨k, hk, rfl, hrel⟩ := hrel
    by_cases hlt : k < L.length
    · have hcell := HC.out k L[k] (List.getElem?_eq_getElem hlt)
      have hsm : L[k].size ≤ 9223372036854775807 := by have := HI.out.small L[k] (List.getElem_mem hlt); omega
      have hrel' : Hid (L.all (fun s => addrLab (lst s)) = (addrLab (lst L[k]) && (L.drop (k + 1)).all fun s => addrLab (lst s))) := by show _ = _; rw [hrel.out, all_drop _ L k hlt]
      clear hrel
      generalize L[k] = x at *
      by_cases hd : digB (lst x) = true
      · have Hd := Lib.hid hd
        have hxl := lst_len x
        by_cases c1 : 3 < x.size
        · have Hlab : Hid (addrLab (lst x) = false) := by show _ = _; rw [addrLab, hxl, decide_eq_true c1]; simp
          clear hd hxl
          go_wp2_with (go_at_call 20; refine (digits_any _ _ hsm).mono ?_; rintro e w' ⟨rfl, rfl⟩; rw [Hd.out])
          go_ret
          exact ⟨ret_bool (by rw [HF.out, hrel'.out, Hlab.out]; rfl), hb⟩
        · by_cases c2 : x.size = 3
          · have c2' : ((x.size : Int) == 3) = true := by simp; omega
            have h0 : 0 < x.size := by omega
            have hg := getD_lst x 0 h0
            cases hA : Op.bytesLess x.toList [50, 53, 53] with
            | false =>
              cases hE : (x.toList == [50, 53, 53]) with
              | false =>
                have hE' : ¬ x.toList = [50, 53, 53] := by simpa using hE
                have Hlab : Hid (addrLab (lst x) = false) := by show _ = _; rw [addrLab, hxl, gtB, ← toList_lst, hA, hE, decide_eq_true c2]; simp
                clear hd hxl hg
                go_wp2_with (go_at_call 20; refine (digits_any _ _ hsm).mono ?_; rintro e w' ⟨rfl, rfl⟩; rw [Hd.out])
                go_ret
                exact ⟨ret_bool (by rw [HF.out, hrel'.out, Hlab.out]; rfl), hb⟩
              | true =>
                have hE' : x.toList = [50, 53, 53] := by simpa using hE
                have hz : (x[0].toNat : Int) = 50 := by
                  rw [← hg, ← toList_lst, hE']; rfl
                have hz' : ((x[0].toNat : Int) == 48) = false := by simp [hz]
                have Hlab : Hid (addrLab (lst x) = true) := by show _ = _; rw [addrLab, hd, gtB, hg, hxl, ← toList_lst, hA, hE, decide_eq_false c1, hz]; simp
                clear hd hxl hg hz
                go_wp2_with (go_at_call 20; refine (digits_any _ _ hsm).mono ?_; rintro e w' ⟨rfl, rfl⟩; rw [Hd.out])
                go_round
                case rel => exact ⟨k + 1, by omega, by go_num, by show _ = _; rw [hrel'.out, Hlab.out, Bool.true_and]⟩
                case measure => simp [intOf]; omega
            | true =>
              by_cases hz : (x[0].toNat : Int) = 48
              · have hz' : ((x[0].toNat : Int) == 48) = true := by simp [hz]
                have Hlab : Hid (addrLab (lst x) = false) := by show _ = _; rw [addrLab, hg, hxl, hz, decide_eq_true (show 1 < x.size ∧ (48 : Int) = 48 from ⟨by omega, rfl⟩)]; simp
                clear hd hxl hg hz
                go_wp2_with (go_at_call 20; refine (digits_any _ _ hsm).mono ?_; rintro e w' ⟨rfl, rfl⟩; rw [Hd.out])
                go_ret
                exact ⟨ret_bool (by rw [HF.out, hrel'.out, Hlab.out]; rfl), hb⟩
              · have hz' : ((x[0].toNat : Int) == 48) = false := by simpa using hz
                have Hlab : Hid (addrLab (lst x) = true) := by show _ = _; rw [addrLab, hd, gtB, hg, hxl, ← toList_lst, hA, decide_eq_false c1]; simp [hz]
                clear hd hxl hg hz
                go_wp2_with (go_at_call 20; refine (digits_any _ _ hsm).mono ?_; rintro e w' ⟨rfl, rfl⟩; rw [Hd.out])
                go_round
                case rel => exact ⟨k + 1, by omega, by go_num, by show _ = _; rw [hrel'.out, Hlab.out, Bool.true_and]⟩
                case measure => simp [intOf]; omega
          · have c2' : ((x.size : Int) == 3) = false := by simp; omega
            by_cases c3 : 1 < x.size
            · have h0 : 0 < x.size := by omega
              have hg := getD_lst x 0 h0
              by_cases hz : (x[0].toNat : Int) = 48
              · have hz' : ((x[0].toNat : Int) == 48) = true := by simp [hz]
                have Hlab : Hid (addrLab (lst x) = false) := by show _ = _; rw [addrLab, hg, hxl, hz, decide_eq_true (show 1 < x.size ∧ (48 : Int) = 48 from ⟨by omega, rfl⟩)]; simp
                clear hd hxl hg hz
                go_wp2_with (go_at_call 20; refine (digits_any _ _ hsm).mono ?_; rintro e w' ⟨rfl, rfl⟩; rw [Hd.out])
                go_ret
                exact ⟨ret_bool (by rw [HF.out, hrel'.out, Hlab.out]; rfl), hb⟩
              · have hz' : ((x[0].toNat : Int) == 48) = false := by simpa using hz
                have Hlab : Hid (addrLab (lst x) = true) := by show _ = _; rw [addrLab, hd, hg, hxl, decide_eq_false c1, decide_eq_false c2, decide_eq_false (fun h => hz h.2)]; simp
                clear hd hxl hg hz
                go_wp2_with (go_at_call 20; refine (digits_any _ _ hsm).mono ?_; rintro e w' ⟨rfl, rfl⟩; rw [Hd.out])
                go_round
                case rel => exact ⟨k + 1, by omega, by go_num, by show _ = _; rw [hrel'.out, Hlab.out, Bool.true_and]⟩
                case measure => simp [intOf]; omega
            · have Hlab : Hid (addrLab (lst x) = true) := by show _ = _; rw [addrLab, hd, hxl, decide_eq_false c1, decide_eq_false c2, decide_eq_false (fun h => c3 h.1)]; simp
              clear hd hxl
              go_wp2_with (go_at_call 20; refine (digits_any _ _ hsm).mono ?_; rintro e w' ⟨rfl, rfl⟩; rw [Hd.out])
              go_round
              case rel => exact ⟨k + 1, by omega, by go_num, by show _ = _; rw [hrel'.out, Hlab.out, Bool.true_and]⟩
              case measure => simp [intOf]; omega
      · have hd' : digB (lst x) = false := by simpa using hd
        have Hd := Lib.hid hd'
        clear hd hd'
        go_wp2_with (go_at_call 20; refine (digits_any _ _ hsm).mono ?_; rintro e w' ⟨rfl, rfl⟩; rw [Hd.out])
        go_ret
        exact ⟨ret_bool (by rw [HF.out, hrel'.out, addrLab, Hd.out]; rfl), hb⟩
    · go_wp2
      go_ret
      exact ⟨ret_bool (by rw [HF.out, hrel.out, all_dropped _ L k hlt, Bool.true_and, Bool.eq_iff_iff, beq_iff_eq, decide_eq_true_iff]; omega), hb⟩
end Go.Proofs.YtcofblepdfjhjaaGreatDoor
