/- Walks: whether an entry is sent. -/
import Derived.Test.YtcofblepdfjhjaaGreatDoorW15
namespace Go.Proofs.YtcofblepdfjhjaaGreatDoor
open Go.RowKit
def locB : ByteArray := ⟨#[108, 111, 99, 97, 108, 104, 111, 115, 116]⟩
def foldEq (s t : ByteArray) : Bool := decide (s.size = t.size) && decide (str (low (lst s)) = str (low (lst t)))
set_option maxRecDepth 100000 in
set_option maxHeartbeats 800000 in
theorem zzEqualFold_any (s t : ByteArray) (w : World) (hs : s.size ≤ 9223372036854775807) (ht : t.size ≤ 9223372036854775807) :
    Calls Tryz.prog 105 #[.string s, .string t] w fun r w' => r = .returned (.bool (foldEq s t)) ∧ Below w.heap.size w w' := by
  unfold foldEq
  rw [← beq_str]
  by_cases h : s.size = t.size
  · have h' : ((s.size : Int) == t.size) = true := by simp [h]
    rw [decide_eq_true h, Bool.true_and]
    clear h
    go_enter Tryz.func105, Tryz.ntmps105
    go_wp2_with fail
    refine (zzLow_any s _ hs).mono ?_
    rintro r w1 ⟨rfl, hb1⟩
    go_wp2_with fail
    refine (zzLow_any t _ ht).mono ?_
    rintro r w2 ⟨rfl, hb2⟩
    go_wp2
    go_ret
    exact ⟨rfl, hb1.trans (hb2.mono hb1.size)⟩
  · have h' : ((s.size : Int) == t.size) = false := by simp; omega
    rw [decide_eq_false h, Bool.false_and]
    clear h
    go_enter Tryz.func105, Tryz.ntmps105
    go_wp2
    go_ret
    exact ⟨rfl, Below.refl _ _⟩
/-- Whether a host's last label is 'localhost'. -/
def isLocB (s : ByteArray) : Bool :=
  let t := trimSuf 46 (lst s)
  foldEq (str (t.drop (lastIdx 46 t + 1).toNat)) locB
theorem trimSuf_len (n : Int) (l : List UInt8) : (trimSuf n l).length ≤ l.length := by
  unfold trimSuf; split
  · rw [List.length_take]; omega
  · exact Nat.le_refl _
set_option maxRecDepth 100000 in
set_option maxHeartbeats 800000 in
theorem isLocalhost_any (s : ByteArray) (w : World) (hs : s.size ≤ 9223372036854775806) :
    Calls Tryz.prog 95 #[.string s] w fun r w' => r = .returned (.bool (isLocB s)) ∧ Below w.heap.size w w' := by
  have hL : isLocB s = foldEq (str ((trimSuf 46 (lst s)).drop (lastIdx 46 (trimSuf 46 (lst s)) + 1).toNat)) locB := rfl
  have hT : (str (trimSuf 46 (lst s))).size ≤ 9223372036854775806 := by rw [str_size]; have := trimSuf_len 46 (lst s); rw [lst_len] at this; omega
  generalize htt : str (trimSuf 46 (lst s)) = t at *
  have e0 : trimSuf 46 (lst s) = lst t := by rw [← htt, lst_str]
  rw [e0] at hL
  have hb := lastIdx_le 46 (lst t) (lst t).length
  have hle : -1 ≤ lastIdx 46 (lst t) ∧ lastIdx 46 (lst t) < t.size := by have := lst_len t; unfold lastIdx; omega
  clear hb e0
  have Htt := Lib.hid htt
  clear htt
  by_cases h0 : 0 ≤ lastIdx 46 (lst t)
  · obtain ⟨q, hq⟩ : ∃ q : Nat, lastIdx 46 (lst t) = (q : Int) := ⟨(lastIdx 46 (lst t)).toNat, by omega⟩
    have hql : q + 1 ≤ t.size := by omega
    have HX : Hid (t.extract (q + 1) t.size = str ((lst t).drop (lastIdx 46 (lst t) + 1).toNat)) := by
      show _ = _
      exact lst_inj (by rw [extract_from, lst_str, hq]; rfl)
    have HL : Hid (isLocB s = foldEq (str ((lst t).drop (lastIdx 46 (lst t) + 1).toNat)) locB) := hL
    have Hq := Lib.hid hq
    have hsz : (str ((lst t).drop (lastIdx 46 (lst t) + 1).toNat)).size ≤ 9223372036854775807 := by rw [str_size, List.length_drop, lst_len]; omega
    clear hL hle h0 hq
    generalize str ((lst t).drop (lastIdx 46 (lst t) + 1).toNat) = u at *
    go_enter Tryz.func95, Tryz.ntmps95
    go_wp2_with fail
    refine (zzTrimSuffix_any s _ _ (by omega)).mono ?_
    rintro r w' ⟨rfl, rfl⟩
    rw [Htt.out]
    go_wp2_with fail
    refine (zzLastIndex_any t _ _ (by omega)).mono ?_
    rintro r w' ⟨rfl, rfl⟩
    rw [Hq.out]
    go_wp2_with fail
    rw [HX.out]
    refine (zzEqualFold_any u locB _ hsz (by decide)).mono ?_
    rintro r w1 ⟨rfl, hb⟩
    go_wp2
    go_ret
    exact ⟨ret_bool HL.out.symm, hb⟩
  · have hq : lastIdx 46 (lst t) = -1 := by omega
    have HX : Hid (str ((lst t).drop (lastIdx 46 (lst t) + 1).toNat) = t) := by
      show _ = _
      rw [hq]; exact str_lst t
    have HL : Hid (isLocB s = foldEq t locB) := by show _ = _; rw [hL, HX.out]
    have Hq := Lib.hid hq
    clear hL hle h0 hq HX
    go_enter Tryz.func95, Tryz.ntmps95
    go_wp2_with fail
    refine (zzTrimSuffix_any s _ _ (by omega)).mono ?_
    rintro r w' ⟨rfl, rfl⟩
    rw [Htt.out]
    go_wp2_with fail
    refine (zzLastIndex_any t _ _ (by omega)).mono ?_
    rintro r w' ⟨rfl, rfl⟩
    rw [Hq.out]
    go_wp2_with fail
    refine (zzEqualFold_any t locB _ (by omega) (by decide)).mono ?_
    rintro r w1 ⟨rfl, hb⟩
    go_wp2
    go_ret
    exact ⟨ret_bool HL.out.symm, hb⟩
/-- Whether the scheme lets an entry be sent. -/
def secMatch (e : Ent) (https : Bool) : Bool := !e.secure || https || isLocB e.domain || ((ip4 (lst e.domain)).2 && decide ((ip4 (lst e.domain)).1 = 127))
set_option maxRecDepth 100000 in
set_option maxHeartbeats 800000 in
theorem secureMatch_any (e : Ent) (la : Int) (b o : Nat) (https : Bool) (w : World) (h : RowAt w b o (entCells e la)) (hlt : b < w.heap.size) (hs : e.domain.size ≤ 9223372036854775806) :
    Calls Tryz.prog 80 #[.pointer (some ⟨b, o, none⟩), .bool https] w fun r w' => r = .returned (.bool (secMatch e https)) ∧ Below w.heap.size w w' := by
  have h3 := h.at 3 _ rfl
  have h5 := h.at 5 _ rfl
  clear h
  unfold secMatch
  cases hsec : e.secure
  · rw [hsec] at h5
    go_enter Tryz.func80, Tryz.ntmps80
    go_wp2
    go_ret
    exact ⟨rfl, Below.refl _ _⟩
  · rw [hsec] at h5
    cases https
    · cases hl : isLocB e.domain
      · have Hl := Lib.hid hl
        generalize hi : ip4 (lst e.domain) = ii
        obtain ⟨n, ok⟩ := ii
        have Hi := Lib.hid hi
        clear hl hi
        cases ok
        · go_enter Tryz.func80, Tryz.ntmps80
          go_wp2_with fail
          refine (isLocalhost_any e.domain _ hs).mono ?_
          rintro r w1 ⟨rfl, hb⟩
          rw [Hl.out]
          have h3' := (hb.cell (p := ⟨b, o + 3, none⟩) hlt).trans h3
          go_wp2_with fail
          refine (zzIPv4_any e.domain _ (by omega)).mono ?_
          rintro r w' ⟨rfl, rfl⟩
          rw [Hi.out]
          go_wp2
          go_ret
          exact ⟨rfl, hb⟩
        · by_cases h127 : n = 127
          · have h127' : (n == 127) = true := by simp [h127]
            rw [decide_eq_true h127]
            clear h127
            go_enter Tryz.func80, Tryz.ntmps80
            go_wp2_with fail
            refine (isLocalhost_any e.domain _ hs).mono ?_
            rintro r w1 ⟨rfl, hb⟩
            rw [Hl.out]
            have h3' := (hb.cell (p := ⟨b, o + 3, none⟩) hlt).trans h3
            go_wp2_with fail
            refine (zzIPv4_any e.domain _ (by omega)).mono ?_
            rintro r w' ⟨rfl, rfl⟩
            rw [Hi.out]
            go_wp2
            go_ret
            exact ⟨rfl, hb⟩
          · have h127' : (n == 127) = false := by simp [h127]
            rw [decide_eq_false h127]
            clear h127
            go_enter Tryz.func80, Tryz.ntmps80
            go_wp2_with fail
            refine (isLocalhost_any e.domain _ hs).mono ?_
            rintro r w1 ⟨rfl, hb⟩
            rw [Hl.out]
            have h3' := (hb.cell (p := ⟨b, o + 3, none⟩) hlt).trans h3
            go_wp2_with fail
            refine (zzIPv4_any e.domain _ (by omega)).mono ?_
            rintro r w' ⟨rfl, rfl⟩
            rw [Hi.out]
            go_wp2
            go_ret
            exact ⟨rfl, hb⟩
      · have Hl := Lib.hid hl
        clear hl
        go_enter Tryz.func80, Tryz.ntmps80
        go_wp2_with fail
        refine (isLocalhost_any e.domain _ hs).mono ?_
        rintro r w1 ⟨rfl, hb⟩
        rw [Hl.out]
        go_wp2
        go_ret
        exact ⟨rfl, hb⟩
    · go_enter Tryz.func80, Tryz.ntmps80
      go_wp2
      go_ret
      exact ⟨rfl, Below.refl _ _⟩
/-- Whether an entry is sent. -/
def sendB (e : Ent) (https : Bool) (host path : ByteArray) : Bool := domMatch e host && patMatch e path && secMatch e https
set_option maxRecDepth 100000 in
set_option maxHeartbeats 800000 in
theorem shouldSend_any (e : Ent) (la : Int) (b o : Nat) (https : Bool) (host path : ByteArray) (w : World) (h : RowAt w b o (entCells e la)) (hlt : b < w.heap.size) (hf : EntFit e) (h0 : 0 < e.path.size)
    (hh : host.size ≤ 9223372036854775807) (hp : path.size ≤ 9223372036854775807) :
    Calls Tryz.prog 58 #[.pointer (some ⟨b, o, none⟩), .bool https, .string host, .string path] w fun r w' => r = .returned (.bool (sendB e https host path)) ∧ Below w.heap.size w w' := by
  obtain ⟨_, _, f3, f4⟩ := hf
  unfold sendB
  cases h1 : domMatch e host
  · have H1 := Lib.hid h1
    clear h1
    go_enter Tryz.func58, Tryz.ntmps58
    go_wp2_with fail
    refine (domainMatch_any e la b o host _ h hh).mono ?_
    rintro r w' ⟨rfl, rfl⟩
    rw [H1.out]
    go_wp2
    go_ret
    exact ⟨rfl, Below.refl _ _⟩
  · have H1 := Lib.hid h1
    clear h1
    cases h2 : patMatch e path
    · have H2 := Lib.hid h2
      clear h2
      go_enter Tryz.func58, Tryz.ntmps58
      go_wp2_with fail
      refine (domainMatch_any e la b o host _ h hh).mono ?_
      rintro r w' ⟨rfl, rfl⟩
      rw [H1.out]
      go_wp2_with fail
      refine (pathMatch_any e la b o path _ h hp h0 (by omega)).mono ?_
      rintro r w1 ⟨rfl, hb⟩
      rw [H2.out]
      go_wp2
      go_ret
      exact ⟨rfl, hb⟩
    · have H2 := Lib.hid h2
      clear h2
      go_enter Tryz.func58, Tryz.ntmps58
      go_wp2_with fail
      refine (domainMatch_any e la b o host _ h hh).mono ?_
      rintro r w' ⟨rfl, rfl⟩
      rw [H1.out]
      go_wp2_with fail
      refine (pathMatch_any e la b o path _ h hp h0 (by omega)).mono ?_
      rintro r w1 ⟨rfl, hb⟩
      rw [H2.out]
      go_wp2_with fail
      refine (secureMatch_any e la b o https _ (h.below hb hlt) (Nat.lt_of_lt_of_le hlt hb.size) (by omega)).mono ?_
      rintro r w2 ⟨rfl, hb2⟩
      go_wp2
      go_ret
      exact ⟨rfl, hb.trans (hb2.mono hb.size)⟩
end Go.Proofs.YtcofblepdfjhjaaGreatDoor
