/- Walks: a cookie's domain. -/
import Derived.Test.YtcofblepdfjhjaaGreatDoorW18
namespace Go.Proofs.YtcofblepdfjhjaaGreatDoor
open Go.RowKit
def DomOK (l : List UInt8) : Prop := l = [] ∨ (HostSigns (trimPre 46 l) ∧ (((trimPre 46 l).getD 0 0).toNat : Int) ≠ 46)
/-- A cookie's domain in lower case, without a dot at its beginning. -/
def domLow (d : ByteArray) : ByteArray := str (low (trimPre 46 (lst d)))
/-- Whether a domain is a public suffix's own. -/
def sufChk (psl : Option (List ByteArray)) (d : ByteArray) : Bool :=
  match psl with
  | none => false
  | some sufs => !decide (pubSuf sufs d = ⟨#[]⟩) && !dotSuf (lst d) (lst (pubSuf sufs d))
/-- The domain of a cookie and whether it is sent to its host alone; none: it is refused. -/
def domTy (psl : Option (List ByteArray)) (host domain : ByteArray) : Option (ByteArray × Bool) :=
  if domain = ⟨#[]⟩ then some (host, true)
  else if (ip4 (lst host)).2 then (if host = domain then some (host, true) else none)
  else if sufChk psl (domLow domain) then (if host = domLow domain then some (host, true) else none)
  else if host ≠ domLow domain ∧ dotSuf (lst host) (lst (domLow domain)) = false then none
  else some (domLow domain, false)
def domRes (ev : Value) : Option (ByteArray × Bool) → Value
  | some (d, ho) => .tuple #[.string d, .bool ho, .nilIface]
  | none => .tuple #[.string ⟨#[]⟩, .bool false, ev]
theorem low_len (l : List UInt8) : (low l).length = l.length := by simp [low]
theorem trimPre_len (n : Int) (l : List UInt8) : (trimPre n l).length ≤ l.length := by
  unfold trimPre; split
  · rw [List.length_drop]; omega
  · exact Nat.le_refl _
theorem domLow_size (d : ByteArray) : (domLow d).size ≤ d.size := by
  rw [domLow, str_size, low_len]; have := trimPre_len 46 (lst d); rw [lst_len] at this; exact this
theorem lowC_dot (x : UInt8) : ((lowC x).toNat : Int) = 46 ↔ (x.toNat : Int) = 46 := by
  have h : ∀ n : Fin 256, ((lowC (UInt8.ofNat n.val)).toNat : Int) = 46 ↔ ((UInt8.ofNat n.val).toNat : Int) = 46 := by decide +kernel
  have := h ⟨x.toNat, x.toNat_lt⟩
  simpa using this
theorem low_getD (l : List UInt8) (i : Nat) (h : i < l.length) : (low l).getD i 0 = lowC (l.getD i 0) := by
  simp [low, List.getD_eq_getElem?_getD, List.getElem?_eq_getElem h]
set_option maxRecDepth 100000 in
set_option maxHeartbeats 1600000 in
theorem domainAndType_any (psl : Option (List ByteArray)) (pv ev : Value) (B jb : Nat) (host domain : ByteArray) (te : TypeId) (pe : Value) (w : World) (h : PslAt w B pv psl) (hB : B ≤ w.heap.size)
    (hj : w.cell? ⟨jb, 0, none⟩ = some pv) (hjb : jb < w.heap.size) (hev : ev = .iface te pe) (hg : w.cell? ⟨0, 0, none⟩ = some ev) (hw0 : 0 < w.heap.size)
    (hh : host.size ≤ 4294967296) (hd : domain.size ≤ 4294967296) (h1 : ∀ x ∈ lst host, (x.toNat : Int) ≠ 58) (h2 : ∀ x ∈ lst host, (x.toNat : Int) ≠ 37) (hD : DomOK (lst domain)) :
    Calls Tryz.prog 82 #[.pointer (some ⟨jb, 0, none⟩), .string host, .string domain] w fun r w' => r = .returned (domRes ev (domTy psl host domain)) ∧ Below w.heap.size w w' := by
  subst hev
  have HIP : ∀ W, _ := fun W => isIP_any host W (by omega) h1 h2
  have Hip := Lib.hid HIP
  clear HIP h1 h2
  by_cases c0 : domain = ⟨#[]⟩
  · have HR : Hid (domTy psl host domain = some (host, true)) := by show _ = _; rw [domTy, if_pos c0]
    subst c0
    rw [HR.out]
    clear hD
    go_enter Tryz.func82, Tryz.ntmps82
    go_wp2
    go_ret3
    exact ⟨rfl, Below.refl _ _⟩
  · have hR : domTy psl host domain = if (ip4 (lst host)).2 then (if host = domain then some (host, true) else none)
        else if sufChk psl (domLow domain) then (if host = domLow domain then some (host, true) else none)
        else if host ≠ domLow domain ∧ dotSuf (lst host) (lst (domLow domain)) = false then none
        else some (domLow domain, false) := by rw [domTy, if_neg c0]
    have c0' : domain.toList.isEmpty = false := by
      rw [toList_lst]
      cases hl : lst domain with
      | nil => exact absurd (lst_inj (hl.trans (by rfl : ([] : List UInt8) = lst ⟨#[]⟩))) c0
      | cons a b => rfl
    cases hip : (ip4 (lst host)).2
    · have Hi := Lib.hid hip
      rw [hip, if_neg (by decide)] at hR
      have hne : lst domain ≠ [] := fun e => c0 (lst_inj (e.trans (by rfl : ([] : List UInt8) = lst ⟨#[]⟩)))
      rcases hD with hD | ⟨HS, hf⟩
      · exact absurd hD hne
      have hT : Hid (str (trimPre 46 (lst domain)) = str (trimPre 46 (lst domain))) := rfl
      have htl : lst (str (trimPre 46 (lst domain))) = trimPre 46 (lst domain) := lst_str _
      have hts : (str (trimPre 46 (lst domain))).size ≤ 4294967296 := by rw [str_size]; have := trimPre_len 46 (lst domain); rw [lst_len] at this; omega
      have hdl : domLow domain = str (low (lst (str (trimPre 46 (lst domain))))) := by rw [lst_str]; rfl
      have Ht := Lib.hid (show str (trimPre 46 (lst domain)) = str (trimPre 46 (lst domain)) from rfl)
      generalize htt : str (trimPre 46 (lst domain)) = t at hts hdl Ht htl
      rw [← htl] at HS hf
      have Htt := Lib.hid htt
      clear htt hT Ht htl hne c0 hip
      have ht0 : 0 < t.size := by rw [← lst_len]; exact List.length_pos_iff.2 HS.ne
      have ht0e : ((t.size : Int) == 0) = false := beq_eq_false_iff_ne.2 (by omega)
      have hg0 : (lst t).getD 0 0 = t[0] := getD_lst t 0 ht0
      rw [hg0] at hf
      have hf' : ((t[0].toNat : Int) == 46) = false := by simp [hf]
      have HPr := Lib.hid HS.print
      have hlast := HS.last
      have hds : (domLow domain).size = t.size := by rw [hdl, str_size, low_len, lst_len]
      have hlast' : (((lst (domLow domain)).getD ((domLow domain).size - 1) 0).toNat : Int) ≠ 46 := by
        rw [hds, hdl, lst_str, low_getD _ _ (by rw [lst_len]; omega), ← lst_len]
        exact fun e => hlast ((lowC_dot _).1 e)
      have hdd := Lib.hid hdl.symm
      clear hf hg0 hlast HS hdl
      generalize domLow domain = d at *
      have hd0 : 0 < d.size := by omega
      have hds' : d.size ≤ 4294967296 := by omega
      clear hds
      rw [getD_lst d (d.size - 1) (by omega)] at hlast'
      have hlast2 : ((d[d.size - 1].toNat : Int) == 46) = false := by simp [hlast']
      clear hlast'
      have HR := Lib.hid hR
      clear hR
      go_enter Tryz.func82, Tryz.ntmps82
      go_wp2_with fail
      refine (Hip.out _).mono ?_
      rintro r w' ⟨rfl, rfl⟩
      rw [Hi.out]
      go_wp2_with fail
      refine (zzTrimPrefix_any domain 46 _ (by omega)).mono ?_
      rintro r w' ⟨rfl, rfl⟩
      rw [Htt.out]
      go_wp2_with fail
      refine (zzToLower_yes t _ (by omega) HPr.out).mono ?_
      rintro r w1 ⟨rfl, hb⟩
      rw [hdd.out]
      have hj1 := (hb.cell (p := ⟨jb, 0, none⟩) hjb).trans hj
      have hg1 := (hb.cell (p := ⟨0, 0, none⟩) hw0).trans hg
      have hp1 := h.below hb hB
      clear hj hg h
      cases psl with
      | none =>
        cases (hp1 : pv = .nilIface)
        have hc : sufChk none d = false := rfl
        have HR := Lib.hid (HR.out.trans (if_neg (by rw [hc]; decide)))
        have hdm := hasDotSuffix_any host d
        by_cases c2 : host = d
        · have HR' : Hid (domTy none host domain = some (d, false)) := by show _ = _; rw [HR.out, if_neg (fun h => h.1 c2)]
          have c2' : (host.toList == d.toList) = true := by rw [beq_str, decide_eq_true c2]
          clear HR c2
          go_wp2
          go_ret3
          exact ⟨by rw [HR'.out]; rfl, hb⟩
        · have c2' : (host.toList == d.toList) = false := by rw [beq_str, decide_eq_false c2]
          cases c3 : dotSuf (lst host) (lst d)
          · have HR' : Hid (domTy none host domain = none) := by show _ = _; rw [HR.out, if_pos ⟨c2, c3⟩]
            have H3 := Lib.hid c3
            clear HR c2 c3
            go_wp2_with fail
            refine (hdm _ (by omega)).mono ?_
            rintro r w' ⟨rfl, rfl⟩
            rw [H3.out]
            go_wp2_with fail
            go_quiet (fail)
            go_wp2
            go_ret3
            exact ⟨by rw [HR'.out]; rfl, below_drewN hb _⟩
          · have HR' : Hid (domTy none host domain = some (d, false)) := by show _ = _; rw [HR.out, if_neg (fun h => by rw [c3] at h; cases h.2)]
            have H3 := Lib.hid c3
            clear HR c2 c3
            go_wp2_with fail
            refine (hdm _ (by omega)).mono ?_
            rintro r w' ⟨rfl, rfl⟩
            rw [H3.out]
            go_wp2
            go_ret3
            exact ⟨by rw [HR'.out]; rfl, hb⟩
      | some sufs =>
        obtain ⟨v, rfl, hv, hvl, hvs⟩ := hp1
        have hus := pubSuf_size sufs d hvs
        have hc : sufChk (some sufs) d = (!decide (pubSuf sufs d = ⟨#[]⟩) && !dotSuf (lst d) (lst (pubSuf sufs d))) := rfl
        generalize hug : pubSuf sufs d = u at *
        have Hu := Lib.hid hug
        clear hug
        go_wp2_with fail
        refine (PublicSuffix_any v sufs B d _ hv hvl hvs (by omega)).mono ?_
        rintro r w' ⟨rfl, rfl⟩
        rw [Hu.out]
        by_cases d1 : u = ⟨#[]⟩
        · rw [decide_eq_true d1] at hc
          have HR := Lib.hid (HR.out.trans (if_neg (by rw [hc]; simp)))
          subst d1
          clear hc
          have hdm := hasDotSuffix_any host d
          by_cases c2 : host = d
          · have HR' : Hid (domTy (some sufs) host domain = some (d, false)) := by show _ = _; rw [HR.out, if_neg (fun h => h.1 c2)]
            have c2' : (host.toList == d.toList) = true := by rw [beq_str, decide_eq_true c2]
            clear HR c2
            go_wp2
            go_ret3
            exact ⟨by rw [HR'.out]; rfl, hb⟩
          · have c2' : (host.toList == d.toList) = false := by rw [beq_str, decide_eq_false c2]
            cases c3 : dotSuf (lst host) (lst d)
            · have HR' : Hid (domTy (some sufs) host domain = none) := by show _ = _; rw [HR.out, if_pos ⟨c2, c3⟩]
              have H3 := Lib.hid c3
              clear HR c2 c3
              go_wp2_with fail
              refine (hdm _ (by omega)).mono ?_
              rintro r w' ⟨rfl, rfl⟩
              rw [H3.out]
              go_wp2_with fail
              go_quiet (fail)
              go_wp2
              go_ret3
              exact ⟨by rw [HR'.out]; rfl, below_drewN hb _⟩
            · have HR' : Hid (domTy (some sufs) host domain = some (d, false)) := by show _ = _; rw [HR.out, if_neg (fun h => by rw [c3] at h; cases h.2)]
              have H3 := Lib.hid c3
              clear HR c2 c3
              go_wp2_with fail
              refine (hdm _ (by omega)).mono ?_
              rintro r w' ⟨rfl, rfl⟩
              rw [H3.out]
              go_wp2
              go_ret3
              exact ⟨by rw [HR'.out]; rfl, hb⟩
        · have d1' : u.toList.isEmpty = false := by
            rw [toList_lst]
            cases hl : lst u with
            | nil => exact absurd (lst_inj (hl.trans (by rfl : ([] : List UInt8) = lst ⟨#[]⟩))) d1
            | cons a b => rfl
          rw [decide_eq_false d1] at hc
          cases d2 : dotSuf (lst d) (lst u)
          · rw [d2] at hc
            have HR := Lib.hid (HR.out.trans (if_pos (by rw [hc]; rfl)))
            have H2 := Lib.hid d2
            clear d2 hc d1
            go_wp2_with fail
            refine (hasDotSuffix_any d u _ (by omega)).mono ?_
            rintro r w' ⟨rfl, rfl⟩
            rw [H2.out]
            by_cases c2 : host = d
            · have HR' : Hid (domTy (some sufs) host domain = some (host, true)) := by show _ = _; rw [HR.out, if_pos c2]
              have c2' : (host.toList == d.toList) = true := by rw [beq_str, decide_eq_true c2]
              clear HR c2
              go_wp2
              go_ret3
              exact ⟨by rw [HR'.out]; rfl, hb⟩
            · have HR' : Hid (domTy (some sufs) host domain = none) := by show _ = _; rw [HR.out, if_neg c2]
              have c2' : (host.toList == d.toList) = false := by rw [beq_str, decide_eq_false c2]
              clear HR c2
              go_wp2_with fail
              go_quiet (fail)
              go_wp2
              go_ret3
              exact ⟨by rw [HR'.out]; rfl, below_drewN hb _⟩
          · rw [d2] at hc
            have HR := Lib.hid (HR.out.trans (if_neg (by rw [hc]; decide)))
            have H2 := Lib.hid d2
            clear d2 hc d1
            go_wp2_with fail
            refine (hasDotSuffix_any d u _ (by omega)).mono ?_
            rintro r w' ⟨rfl, rfl⟩
            rw [H2.out]
            have hdm := hasDotSuffix_any host d
            by_cases c2 : host = d
            · have HR' : Hid (domTy (some sufs) host domain = some (d, false)) := by show _ = _; rw [HR.out, if_neg (fun h => h.1 c2)]
              have c2' : (host.toList == d.toList) = true := by rw [beq_str, decide_eq_true c2]
              clear HR c2
              go_wp2
              go_ret3
              exact ⟨by rw [HR'.out]; rfl, hb⟩
            · have c2' : (host.toList == d.toList) = false := by rw [beq_str, decide_eq_false c2]
              cases c3 : dotSuf (lst host) (lst d)
              · have HR' : Hid (domTy (some sufs) host domain = none) := by show _ = _; rw [HR.out, if_pos ⟨c2, c3⟩]
                have H3 := Lib.hid c3
                clear HR c2 c3
                go_wp2_with fail
                refine (hdm _ (by omega)).mono ?_
                rintro r w' ⟨rfl, rfl⟩
                rw [H3.out]
                go_wp2_with fail
                go_quiet (fail)
                go_wp2
                go_ret3
                exact ⟨by rw [HR'.out]; rfl, below_drewN hb _⟩
              · have HR' : Hid (domTy (some sufs) host domain = some (d, false)) := by show _ = _; rw [HR.out, if_neg (fun h => by rw [c3] at h; cases h.2)]
                have H3 := Lib.hid c3
                clear HR c2 c3
                go_wp2_with fail
                refine (hdm _ (by omega)).mono ?_
                rintro r w' ⟨rfl, rfl⟩
                rw [H3.out]
                go_wp2
                go_ret3
                exact ⟨by rw [HR'.out]; rfl, hb⟩
    · have Hi := Lib.hid hip
      rw [hip, if_pos rfl] at hR
      by_cases c1 : host = domain
      · have HR : Hid (domTy psl host domain = some (host, true)) := by show _ = _; rw [hR, if_pos c1]
        rw [HR.out]
        have c1' : (host.toList == domain.toList) = true := by rw [beq_str, decide_eq_true c1]
        clear hip hR hD c0 c1
        go_enter Tryz.func82, Tryz.ntmps82
        go_wp2_with fail
        refine (Hip.out _).mono ?_
        rintro r w' ⟨rfl, rfl⟩
        rw [Hi.out]
        go_wp2
        go_ret3
        exact ⟨rfl, Below.refl _ _⟩
      · have HR : Hid (domTy psl host domain = none) := by show _ = _; rw [hR, if_neg c1]
        rw [HR.out]
        have c1' : (host.toList == domain.toList) = false := by rw [beq_str, decide_eq_false c1]
        clear hip hR hD c0 c1
        go_enter Tryz.func82, Tryz.ntmps82
        go_wp2_with fail
        refine (Hip.out _).mono ?_
        rintro r w' ⟨rfl, rfl⟩
        rw [Hi.out]
        go_wp2_with fail
        go_quiet (fail)
        go_wp2
        go_ret3
        exact ⟨rfl, below_drewN (Below.refl _ _) _⟩
end Go.Proofs.YtcofblepdfjhjaaGreatDoor
