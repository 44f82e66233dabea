/- Walks: the canonical host, addresses, default paths. -/
import Derived.Test.YtcofblepdfjhjaaGreatDoorW3
import Derived.Test.YtcofblepdfjhjaaGreatDoorPlainB
namespace Go.Proofs.YtcofblepdfjhjaaGreatDoor
open Go.RowKit
set_option maxHeartbeats 400000 in
theorem hasPort_any (s : ByteArray) (w : World) (hs : s.size ≤ 9223372036854775807) (h : cnt 58 (lst s) = 0 ∨ cnt 58 (lst s) = 1) :
    Calls Tryz.prog 70 #[.string s] w fun e w' => e = .returned (.bool (decide (cnt 58 (lst s) = 1))) ∧ w = w' := by
  generalize hc : cnt 58 (lst s) = c at h
  have Hc := Lib.hid hc
  clear hc
  rcases h with rfl | rfl
  · go_enter Tryz.func70, Tryz.ntmps70
    go_wp2_with (go_at_call 87; refine (zzCount_any _ _ _ hs).mono ?_; rintro e w' ⟨rfl, rfl⟩; rw [Hc.out])
    go_ret
    exact ⟨rfl, rfl⟩
  · go_enter Tryz.func70, Tryz.ntmps70
    go_wp2_with (go_at_call 87; refine (zzCount_any _ _ _ hs).mono ?_; rintro e w' ⟨rfl, rfl⟩; rw [Hc.out])
    go_ret
    exact ⟨rfl, rfl⟩
set_option maxHeartbeats 400000 in
theorem zzToLower_yes (s : ByteArray) (w : World) (hs : s.size ≤ 9223372036854775807) (h : printB (lst s) = true) :
    Calls Tryz.prog 75 #[.string s] w fun e w' => e = .returned (.tuple #[.string (str (low (lst s))), .bool true]) ∧ Below w.heap.size w w' := by
  have H := Lib.hid h
  clear h
  go_enter Tryz.func75, Tryz.ntmps75
  go_wp2_with (first | (go_at_call 90; refine (zzPrint_any _ _ hs).mono ?_; rintro e w' ⟨rfl, rfl⟩; rw [H.out]) | (go_at_call 91; refine (zzLow_any _ _ hs).mono ?_; rintro e w1 ⟨rfl, hb⟩))
  go_ret2
  exact ⟨rfl, hb⟩
set_option maxHeartbeats 800000 in
theorem zzSplitHostPort_yes (s : ByteArray) (a b : List UInt8) (w : World) (hs : s.size ≤ 9223372036854775807) (h : lst s = a ++ 58 :: b) (hne : a ≠ [])
    (h1 : ∀ x ∈ a, (x.toNat : Int) ≠ 58) (h2 : ∀ x ∈ lst s, (x.toNat : Int) ≠ 91) (h3 : ∀ x ∈ lst s, (x.toNat : Int) ≠ 93) (h4 : ∀ x ∈ b, (x.toNat : Int) ≠ 58) :
    Calls Tryz.prog 71 #[.string s] w fun e w' => e = .returned (.tuple #[.string (str a), .string (str b), .nilIface]) ∧ w = w' := by
  have hsz : s.size = a.length + 1 + b.length := by rw [← lst_len, h]; simp; omega
  have Hl : Hid (lastIdx 58 (lst s) = (a.length : Int)) := by show _ = _; rw [h]; exact lastIdx_at rfl h4
  have hk : a.length < s.size := by omega
  have hpos : 0 < a.length := List.length_pos_iff.2 hne
  have h0 : 0 < s.size := by omega
  have Hf : ((s[0].toNat : Int) == 91) = false := by
    have : s[0] ∈ lst s := List.mem_of_getElem? (lst_get s 0 h0)
    simpa using h2 _ this
  have Ha : Hid (s.extract 0 a.length = str a) := by show _ = _; exact lst_inj (by rw [lst_str, extract_to, h]; simp)
  have Hb : Hid (s.extract (a.length + 1) s.size = str b) := by show _ = _; exact lst_inj (by rw [lst_str, extract_from, h]; simp)
  have Hi : Hid (idx 58 (lst (str a)) = -1) := by show _ = _; rw [lst_str]; exact idx_none h1
  have H91 : Hid (idx 91 (lst s) = -1) := by show _ = _; exact idx_none h2
  have H93 : Hid (idx 93 (lst s) = -1) := by show _ = _; exact idx_none h3
  have hsa : (str a).size ≤ 9223372036854775807 := by rw [str_size]; omega
  clear h1 h2 h3 h4 h
  generalize a.length = k at *
  have Hsz := Lib.hid hsz
  clear hsz
  go_enter Tryz.func71, Tryz.ntmps71
  go_wp2_with (first | (go_at_call 77; refine (zzLastIndex_any _ _ _ hs).mono ?_; rintro e w' ⟨rfl, rfl⟩; rw [Hl.out]))
  rw [Ha.out]
  refine (zzIndex_any (str a) 58 _ hsa).mono ?_
  rintro e w' ⟨rfl, rfl⟩
  rw [Hi.out]
  go_wp2_with fail
  refine (zzIndex_any s 91 _ hs).mono ?_
  rintro e w' ⟨rfl, rfl⟩
  rw [H91.out]
  go_wp2_with fail
  refine (zzIndex_any s 93 _ hs).mono ?_
  rintro e w' ⟨rfl, rfl⟩
  rw [H93.out]
  go_wp2_with fail
  go_ret3
  exact ⟨by simp [Hb.out], rfl⟩
theorem trim_str {s : ByteArray} {l : List UInt8} (h : lst s = l) (ht : trimSuf 46 l = l) : str (trimSuf 46 (lst s)) = s := by rw [h, ht, ← h, str_lst]
set_option maxHeartbeats 800000 in
theorem canonicalHost_any (s : ByteArray) (h : List UInt8) (w : World) (hs : s.size ≤ 9223372036854775807) (H : HostPort (lst s) h) :
    Calls Tryz.prog 55 #[.string s] w fun e w' => e = .returned (.tuple #[.string (str (low h)), .nilIface]) ∧ Below w.heap.size w w' := by
  obtain ⟨HS, H⟩ := H
  rcases H with e | ⟨p, e, hp⟩
  · have hc : cnt 58 (lst s) = 0 := by rw [e]; exact cnt_none (HS.none 58 (by omega))
    have HC : Hid (decide (cnt 58 (lst s) = 1) = false) := by show _ = _; rw [hc]; rfl
    have HT : Hid (str (trimSuf 46 (lst s)) = s) := trim_str e HS.trim
    have HA : Hid (asciiB (lst s) = true) := by show _ = _; rw [e]; exact HS.ascii
    have HP : printB (lst s) = true := by rw [e]; exact HS.print
    have HPh := Lib.hid HP
    have HCh := Lib.hid hc
    have HL : Hid (str (low (lst s)) = str (low h)) := by show _ = _; rw [e]
    clear e hc HP
    go_enter Tryz.func55, Tryz.ntmps55
    go_wp2_with (first
      | (go_at_call 70; refine (hasPort_any _ _ hs (Or.inl HCh.out)).mono ?_; rintro e w' ⟨rfl, rfl⟩; rw [HC.out])
      | (go_at_call 72; refine (zzTrimSuffix_any _ _ _ hs).mono ?_; rintro e w' ⟨rfl, rfl⟩; rw [HT.out])
      | (go_at_call 73; refine (zzASCII_any _ _ hs).mono ?_; rintro e w' ⟨rfl, rfl⟩; rw [HA.out])
      | (go_at_call 75; refine (zzToLower_yes _ _ hs HPh.out).mono ?_; rintro e w1 ⟨rfl, hb⟩; rw [HL.out]))
    go_ret2
    exact ⟨rfl, hb⟩
  · have hn : ∀ n : Int, n = 91 ∨ n = 93 → ∀ x ∈ lst s, (x.toNat : Int) ≠ n := by
      intro n hn x hx
      rw [e] at hx
      rcases List.mem_append.1 hx with hx | hx
      · exact HS.none n (by omega) x hx
      · rcases List.mem_cons.1 hx with rfl | hx
        · rcases hn with rfl | rfl <;> decide
        · exact dig_none hp n (by omega) x hx
    have h91 := hn 91 (Or.inl rfl)
    have h93 := hn 93 (Or.inr rfl)
    clear hn
    have hc : cnt 58 (lst s) = 1 := by rw [e]; exact cnt_one rfl (HS.none 58 (by omega)) (dig_none hp 58 (by omega))
    have HC : Hid (decide (cnt 58 (lst s) = 1) = true) := by show _ = _; rw [hc]; rfl
    have HT : Hid (str (trimSuf 46 (lst (str h))) = str h) := trim_str (lst_str h) HS.trim
    have HA : Hid (asciiB (lst (str h)) = true) := by show _ = _; rw [lst_str]; exact HS.ascii
    have HPh : Hid (printB (lst (str h)) = true) := by show _ = _; rw [lst_str]; exact HS.print
    have HCh := Lib.hid hc
    have HL : Hid (str (low (lst (str h))) = str (low h)) := by show _ = _; rw [lst_str]
    have hsh : (str h).size ≤ 9223372036854775807 := by
      have : s.size = h.length + 1 + p.length := by rw [← lst_len, e]; simp; omega
      rw [str_size]; omega
    have c58 := HS.none 58 (by omega)
    have d58 := dig_none hp 58 (by omega)
    have hne := HS.ne
    have HSP : Hid (∀ W : World, Calls Tryz.prog 71 #[.string s] W fun e w' => e = .returned (.tuple #[.string (str h), .string (str p), .nilIface]) ∧ W = w') := fun W => zzSplitHostPort_yes s h p W hs e hne c58 h91 h93 d58
    clear e hc h91 h93 c58 d58 hne
    go_enter Tryz.func55, Tryz.ntmps55
    go_wp2_with (first
      | (go_at_call 70; refine (hasPort_any _ _ hs (Or.inr HCh.out)).mono ?_; rintro e w' ⟨rfl, rfl⟩; rw [HC.out])
      | (go_at_call 71; refine (HSP.out _).mono ?_; rintro e w' ⟨rfl, rfl⟩)
      | (go_at_call 72; refine (zzTrimSuffix_any _ _ _ hsh).mono ?_; rintro e w' ⟨rfl, rfl⟩; rw [HT.out])
      | (go_at_call 73; refine (zzASCII_any _ _ hsh).mono ?_; rintro e w' ⟨rfl, rfl⟩; rw [HA.out])
      | (go_at_call 75; refine (zzToLower_yes _ _ hsh HPh.out).mono ?_; rintro e w1 ⟨rfl, hb⟩; rw [HL.out]))
    go_ret2
    exact ⟨rfl, hb⟩
set_option maxHeartbeats 400000 in
theorem isIP_any (s : ByteArray) (w : World) (hs : s.size ≤ 9223372036854775807) (h1 : ∀ x ∈ lst s, (x.toNat : Int) ≠ 58) (h2 : ∀ x ∈ lst s, (x.toNat : Int) ≠ 37) :
    Calls Tryz.prog 76 #[.string s] w fun e w' => e = .returned (.bool (ip4 (lst s)).2) ∧ w = w' := by
  have H1 := Lib.hid (idx_none h1)
  have H2 := Lib.hid (idx_none h2)
  clear h1 h2
  go_enter Tryz.func76, Tryz.ntmps76
  go_wp2_with fail
  refine (zzIndex_any s 58 _ hs).mono ?_
  rintro e w' ⟨rfl, rfl⟩
  rw [H1.out]
  go_wp2_with fail
  refine (zzIndex_any s 37 _ hs).mono ?_
  rintro e w' ⟨rfl, rfl⟩
  rw [H2.out]
  go_wp2_with (go_at_call 92; refine (zzIPv4_any _ _ hs).mono ?_; rintro e w' ⟨rfl, rfl⟩)
  go_ret
  exact ⟨rfl, rfl⟩
theorem lastIdx_le (n : Int) (l : List UInt8) : ∀ k, -1 ≤ lastGo n l k ∧ lastGo n l k < k
  | 0 => by rw [lastGo]; omega
  | k + 1 => by
    rw [lastGo]
    split
    · omega
    · have := lastIdx_le n l k; omega
set_option maxHeartbeats 800000 in
theorem defaultPath_any (s : ByteArray) (w : World) (hs : s.size ≤ 9223372036854775807) :
    Calls Tryz.prog 62 #[.string s] w fun e w' => e = .returned (.string (str (defPath (lst s)))) ∧ w = w' := by
  have hl := lst_len s
  have Hl := Lib.hid hl
  by_cases h0 : s.size = 0
  · have HD : Hid (defPath (lst s) = [47]) := by show _ = _; rw [defPath, if_pos (Or.inl (by omega))]
    clear hl
    go_enter Tryz.func62, Tryz.ntmps62
    go_wp2
    go_ret
    exact ⟨ret_str (by rw [HD.out]; rfl), rfl⟩
  · have h0' : 0 < s.size := by omega
    have e0 : ((s.size : Int) == 0) = false := beq_eq_false_iff_ne.2 (by omega)
    have hg := getD_lst s 0 h0'
    by_cases h1 : (s[0].toNat : Int) = 47
    · have h1' : ((s[0].toNat : Int) != 47) = false := by simp [h1]
      have hb := lastIdx_le 47 (lst s) (lst s).length
      by_cases h2 : lastIdx 47 (lst s) = 0
      · have HD : Hid (defPath (lst s) = [47]) := by show _ = _; rw [defPath, if_neg (by rw [hg]; omega), if_pos h2]
        have H2 := Lib.hid h2
        clear hl hg h1 h2 hb
        go_enter Tryz.func62, Tryz.ntmps62
        go_wp2_with (go_at_call 77; refine (zzLastIndex_any _ _ _ hs).mono ?_; rintro e w' ⟨rfl, rfl⟩; rw [H2.out])
        go_ret
        exact ⟨ret_str (by rw [HD.out]; rfl), rfl⟩
      · have hneg : lastIdx 47 (lst s) ≠ -1 := by
          intro hh
          rcases last_cases 47 (lst s) with hc | ⟨a, x, b, e, hx, hbb⟩
          · exact hc s[0] (List.mem_of_getElem? (lst_get s 0 h0')) h1
          · rw [e, lastIdx_at hx hbb] at hh; omega
        obtain ⟨q, hq⟩ : ∃ q : Nat, lastIdx 47 (lst s) = (q : Int) := ⟨(lastIdx 47 (lst s)).toNat, by show _ = _; unfold lastIdx at *; omega⟩
        have hq2 : q ≤ s.size := by unfold lastIdx at *; omega
        have hq0 : ((q : Int) == 0) = false := by simp; omega
        have HD : Hid (s.extract 0 q = str (defPath (lst s))) := by show _ = _; exact lst_inj (by rw [extract_to, lst_str, defPath, if_neg (by rw [hg]; omega), if_neg h2, hq]; rfl)
        have H2 := Lib.hid hq
        clear hl hg h1 h2 hb hneg hq
        go_enter Tryz.func62, Tryz.ntmps62
        go_wp2_with (go_at_call 77; refine (zzLastIndex_any _ _ _ hs).mono ?_; rintro e w' ⟨rfl, rfl⟩; rw [H2.out])
        go_ret
        exact ⟨ret_str HD.out, rfl⟩
    · have h1' : ((s[0].toNat : Int) != 47) = true := by simpa using h1
      have HD : Hid (defPath (lst s) = [47]) := by show _ = _; rw [defPath, if_pos (Or.inr (by rw [hg]; exact h1))]
      clear hl hg h1
      go_enter Tryz.func62, Tryz.ntmps62
      go_wp2
      go_ret
      exact ⟨ret_str (by rw [HD.out]; rfl), rfl⟩
end Go.Proofs.YtcofblepdfjhjaaGreatDoor
