/- Walks: hosts and cookies' domains (the reference's functions). -/
import Derived.Test.YtcofblepdfjhjaaGreatDoorW9
namespace Go.Proofs.YtcofblepdfjhjaaGreatDoor
open Go.RowKit
theorem beq_list (a : ByteArray) (l : List UInt8) : (a.toList == l) = (lst a == l) := by rw [toList_lst]
set_option maxRecDepth 100000 in
set_option maxHeartbeats 1600000 in
theorem isHost_any (s : ByteArray) (w : World) (hs : s.size ≤ 4294967296) :
    Calls Tryz.prog 16 #[.string s] w fun e w' => e = .returned (.bool (isHostB (lst s))) ∧ Below w.heap.size w w' := by
  go_enter Tryz.func16, Tryz.ntmps16
  go_wp2_with fail
  refine (labels_any s w hs).mono ?_
  have hI := labIn s
  rintro e w1 ⟨v, rfl, ⟨b, cap, rfl, hbB, hbs, hc⟩, hb⟩
  have hne := labels_ne (lst s)
  have hlpos : 0 < (labels (lst s)).length := List.length_pos_iff.2 hne
  have e1 : ((labels (lst s)).map str).length = (labels (lst s)).length := by simp
  have cl := hc ((labels (lst s)).length - 1) (str (lastLab (lst s))) (by
    rw [List.getElem?_map, lastLab, List.getD_eq_getElem?_getD, List.getElem?_eq_getElem (by omega)]; rfl)
  have cf := hc 0 (str ((labels (lst s)).getD 0 [])) (by
    rw [List.getElem?_map, List.getD_eq_getElem?_getD, List.getElem?_eq_getElem (by omega)]; rfl)
  have hlen := hI.len
  have hls : (str (lastLab (lst s))).size ≤ 4294967296 := by
    have hm : str (lastLab (lst s)) ∈ (labels (lst s)).map str := List.mem_map.2 ⟨_, by rw [lastLab, List.getD_eq_getElem?_getD, List.getElem?_eq_getElem (by omega)]; exact List.getElem_mem _, rfl⟩
    have := hI.small _ hm; omega
  rw [e1] at hlen ⊢
  have HD : Hid (isHostB (lst s) = (isNameB (lst s) && !(low (lst (str (lastLab (lst s)))) == localhost) && ((isAddrB (lst s) && !(lst (str ((labels (lst s)).getD 0 [])) == [49, 50, 55])) || !numB (lst (str (lastLab (lst s))))))) := by
    show _ = _; rw [lst_str, lst_str]; rfl
  clear hc hI hne e1
  generalize (labels (lst s)).length = n at *
  generalize str (lastLab (lst s)) = la at *
  generalize str ((labels (lst s)).getD 0 []) = fi at *
  have CF := Lib.hid cf
  clear cf
  go_wp2_with fail
  clear cl
  refine (isName_any s w1 hs).mono ?_
  rintro e w2 ⟨rfl, hb2⟩
  cases hN : isNameB (lst s) with
  | false =>
    have HN := Lib.hid hN
    clear hN
    go_wp2_with fail
    go_ret
    exact ⟨ret_bool (by rw [HD.out, HN.out]; rfl), hb.trans (hb2.mono hb.size)⟩
  | true =>
    have HN := Lib.hid hN
    clear hN
    go_wp2_with fail
    refine (lower_any la w2 (by omega)).mono ?_
    rintro e w3 ⟨rfl, hb3⟩
    have hbb := (hb.trans (hb2.mono hb.size)).trans (hb3.mono (Nat.le_trans hb.size hb2.size))
    have cf2 : w3.cell? ⟨b, 0, none⟩ = some (.string fi) := by rw [hb3.cell (Nat.lt_of_lt_of_le hbs hb2.size), hb2.cell hbs]; exact CF.out
    have hbs3 : b < w3.heap.size := Nat.lt_of_lt_of_le hbs (Nat.le_trans hb2.size hb3.size)
    clear hb hb2 hb3 CF hbs
    cases hL : ((str (low (lst la))).toList == [108, 111, 99, 97, 108, 104, 111, 115, 116]) with
    | true =>
      have HL : Hid ((low (lst la) == localhost) = true) := by show _ = _; rw [beq_list, lst_str] at hL; exact hL
      go_wp2_with fail
      go_ret
      exact ⟨ret_bool (by rw [HD.out, HN.out, HL.out]; rfl), hbb⟩
    | false =>
      have HL : Hid ((low (lst la) == localhost) = false) := by show _ = _; rw [beq_list, lst_str] at hL; exact hL
      go_wp2_with fail
      refine (isAddress_any s w3 hs).mono ?_
      rintro e w4 ⟨rfl, hb4⟩
      have hbb4 := hbb.trans (hb4.mono hbb.size)
      have cf4 : w4.cell? ⟨b, 0, none⟩ = some (.string fi) := by rw [hb4.cell hbs3]; exact cf2
      clear hbb hb4 cf2 hbs3
      cases hA : isAddrB (lst s) with
      | false =>
        have HA := Lib.hid hA
        clear hA
        go_wp2_with fail
        refine (numbered_any la w4 hls).mono ?_
        rintro e w5 ⟨rfl, hb5⟩
        go_wp2_with fail
        go_ret
        exact ⟨ret_bool (by rw [HD.out, HN.out, HL.out, HA.out]; simp), hbb4.trans (hb5.mono hbb4.size)⟩
      | true =>
        have HA := Lib.hid hA
        clear hA
        cases hF : (fi.toList == [49, 50, 55]) with
        | false =>
          have HF : Hid ((lst fi == [49, 50, 55]) = false) := by show _ = _; rw [beq_list] at hF; exact hF
          go_wp2_with fail
          go_ret
          exact ⟨ret_bool (by rw [HD.out, HN.out, HL.out, HA.out, HF.out]; rfl), hbb4⟩
        | true =>
          have HF : Hid ((lst fi == [49, 50, 55]) = true) := by show _ = _; rw [beq_list] at hF; exact hF
          go_wp2_with fail
          refine (numbered_any la w4 hls).mono ?_
          rintro e w5 ⟨rfl, hb5⟩
          go_wp2_with fail
          go_ret
          exact ⟨ret_bool (by rw [HD.out, HN.out, HL.out, HA.out, HF.out]; simp), hbb4.trans (hb5.mono hbb4.size)⟩
theorem splitB_len (s : ByteArray) : (str (splitB (lst s)).1).size ≤ s.size := by
  rw [str_size, ← lst_len, splitB]
  split
  · exact Nat.le_refl _
  · simp; omega
set_option maxRecDepth 100000 in
set_option maxHeartbeats 800000 in
theorem domTail_walk (listed : Bool) (s : ByteArray) (w : World) (hs : s.size ≤ 4294967296) (hd : (lst s ≠ []) → ((lst s).getD 0 0).toNat ≠ 46) :
    Calls Tryz.prog 23 #[.bool listed, .string s] w fun e w' => e = .returned (.bool (plainDomB listed (lst s))) ∧ Below w.heap.size w w' := by
  by_cases c1 : s.size = 0
  · have c1' : s.toList.isEmpty = true := by rw [empty_lst]; simp [← size_zero, c1]
    have HP : Hid (plainDomB listed (lst s) = true) := by show _ = _; rw [plainDomB, if_pos ((size_zero s).1 c1)]
    go_enter Tryz.func23, Tryz.ntmps23
    go_wp2_with fail
    go_ret
    exact ⟨ret_bool HP.out.symm, Below.refl _ _⟩
  · have c1' : s.toList.isEmpty = false := by rw [empty_lst]; simp [← size_zero, c1]
    have h0 : 0 < s.size := by omega
    have hne : lst s ≠ [] := fun e => c1 ((size_zero s).2 e)
    have h46 := hd hne
    have hg := getD_lst s 0 h0
    have c2 : ¬ (s[0].toNat : Int) = 46 := by rw [hg] at h46; omega
    have c2' : ((s[0].toNat : Int) == 46) = false := by simpa using c2
    have HP : Hid (plainDomB listed (lst s) = (isHostB (lst s) && (listed || decide (1 < (labels (lst s)).length)))) := by
      show _ = _; rw [plainDomB, if_neg hne, hg, if_neg c2, domTail, decide_eq_true hne, Bool.true_and]
    clear hne hd h46 hg c2 c1
    go_enter Tryz.func23, Tryz.ntmps23
    go_wp2_with fail
    refine (isHost_any s w hs).mono ?_
    rintro e w1 ⟨rfl, hb⟩
    cases hH : isHostB (lst s) with
    | false =>
      have HH := Lib.hid hH
      clear hH
      go_wp2_with fail
      go_ret
      exact ⟨ret_bool (by rw [HP.out, HH.out]; rfl), hb⟩
    | true =>
      have HH := Lib.hid hH
      clear hH
      cases listed with
      | true =>
        go_wp2_with fail
        go_ret
        exact ⟨ret_bool (by rw [HP.out, HH.out]; rfl), hb⟩
      | false =>
        go_wp2_with fail
        refine (labels_any s w1 hs).mono ?_
        have hln := labels_len (lst s)
        rw [lst_len] at hln
        rintro e w2 ⟨v, rfl, ⟨b, cap, rfl, hbB, hbs, hc⟩, hb2⟩
        have e1 : ((labels (lst s)).map str).length = (labels (lst s)).length := by simp
        rw [e1]
        clear hc e1
        generalize (labels (lst s)).length = n at *
        go_wp2_with fail
        go_ret
        exact ⟨ret_bool (by rw [HP.out, HH.out]; simp; omega), hb.trans (hb2.mono hb.size)⟩
set_option maxRecDepth 100000 in
set_option maxHeartbeats 800000 in
theorem domDot_walk (listed : Bool) (s : ByteArray) (w : World) (hs : s.size ≤ 4294967296) (h0 : 0 < s.size) (hd : (s[0].toNat : Int) = 46) :
    Calls Tryz.prog 23 #[.bool listed, .string s] w fun e w' => e = .returned (.bool (plainDomB listed (lst s))) ∧ Below w.heap.size w w' := by
  have c1 : s.size ≠ 0 := by omega
  have c1' : s.toList.isEmpty = false := by rw [empty_lst]; simp [← size_zero, c1]
  have hne : lst s ≠ [] := fun e => c1 ((size_zero s).2 e)
  have hg := getD_lst s 0 h0
  have c2' : ((s[0].toNat : Int) == 46) = true := by simpa using hd
  have HT : Hid (s.extract 1 s.size = str ((lst s).drop 1)) := by show _ = _; exact lst_inj (by rw [extract_from, lst_str])
  have hts : (str ((lst s).drop 1)).size ≤ 4294967296 := by rw [str_size]; have := lst_len s; simp; omega
  have HP : Hid (plainDomB listed (lst s) = if isAddrB ((lst s).drop 1) = true then false else (decide ((lst s).drop 1 ≠ []) && isHostB ((lst s).drop 1) && (listed || decide (1 < (labels ((lst s).drop 1)).length)))) := by
    show _ = _; rw [plainDomB, if_neg hne, hg, if_pos hd]; rfl
  have hr := lst_str ((lst s).drop 1)
  generalize str ((lst s).drop 1) = t at *
  rw [← hr] at HP
  clear hne hd hg c1 hr
  go_enter Tryz.func23, Tryz.ntmps23
  go_wp2_with fail
  rw [HT.out]
  refine (isAddress_any t w hts).mono ?_
  rintro e w1 ⟨rfl, hb⟩
  cases hA : isAddrB (lst t) with
  | true =>
    have HA := Lib.hid hA
    clear hA
    go_wp2_with fail
    go_ret
    exact ⟨ret_bool (by rw [HP.out, HA.out]; rfl), hb⟩
  | false =>
    have HA := Lib.hid hA
    clear hA
    by_cases k1 : t.size = 0
    · have k1' : t.toList.isEmpty = true := by rw [empty_lst]; simp [← size_zero, k1]
      have kn := Lib.hid ((size_zero t).1 k1)
      clear k1
      go_wp2_with fail
      go_ret
      exact ⟨ret_bool (by rw [HP.out, HA.out, kn.out]; rfl), hb⟩
    · have k1' : t.toList.isEmpty = false := by rw [empty_lst]; simp [← size_zero, k1]
      have kn := Lib.hid (show lst t ≠ [] from fun e => k1 ((size_zero t).2 e))
      clear k1
      go_wp2_with fail
      refine (isHost_any t w1 hts).mono ?_
      rintro e w2 ⟨rfl, hb2⟩
      have hbb := hb.trans (hb2.mono hb.size)
      clear hb hb2
      cases hH : isHostB (lst t) with
      | false =>
        have HH := Lib.hid hH
        clear hH
        go_wp2_with fail
        go_ret
        exact ⟨ret_bool (by rw [HP.out, HA.out, HH.out]; simp), hbb⟩
      | true =>
        have HH := Lib.hid hH
        clear hH
        cases listed with
        | true =>
          go_wp2_with fail
          go_ret
          exact ⟨ret_bool (by rw [HP.out, HA.out, HH.out, decide_eq_true kn.out]; rfl), hbb⟩
        | false =>
          go_wp2_with fail
          refine (labels_any t w2 hts).mono ?_
          have hln := labels_len (lst t)
          rw [lst_len] at hln
          rintro e w3 ⟨v, rfl, ⟨b, cap, rfl, hbB, hbs, hc⟩, hb3⟩
          have e1 : ((labels (lst t)).map str).length = (labels (lst t)).length := by simp
          rw [e1]
          clear hc e1
          generalize (labels (lst t)).length = n at *
          go_wp2_with fail
          go_ret
          exact ⟨ret_bool (by rw [HP.out, HA.out, HH.out, decide_eq_true kn.out]; simp; omega), hbb.trans (hb3.mono hbb.size)⟩
theorem plainDomain_any (listed : Bool) (s : ByteArray) (w : World) (hs : s.size ≤ 4294967296) :
    Calls Tryz.prog 23 #[.bool listed, .string s] w fun e w' => e = .returned (.bool (plainDomB listed (lst s))) ∧ Below w.heap.size w w' := by
  by_cases h0 : 0 < s.size
  · by_cases hd : (s[0].toNat : Int) = 46
    · exact domDot_walk listed s w hs h0 hd
    · exact domTail_walk listed s w hs fun _ => by rw [getD_lst s 0 h0]; omega
  · exact domTail_walk listed s w hs fun h => absurd ((size_zero s).1 (by omega)) h
end Go.Proofs.YtcofblepdfjhjaaGreatDoor
