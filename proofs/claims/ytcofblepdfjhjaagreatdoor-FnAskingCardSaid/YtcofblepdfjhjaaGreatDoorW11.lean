/- Walks: the bounds of the laws. -/
import Derived.Test.YtcofblepdfjhjaaGreatDoorMem
namespace Go.Proofs.YtcofblepdfjhjaaGreatDoor
open Go.RowKit
set_option maxRecDepth 100000 in
set_option maxHeartbeats 800000 in
theorem zzFits1_any (v : Value) (ls : List ByteArray) (B : Nat) (w : World) (h : StrsAt w B v ls) (hl : ls.length ≤ 9223372036854775807) (hsz : ∀ x ∈ ls, x.size ≤ 9223372036854775807) :
    Calls Tryz.prog 4 #[v] w fun e w' => e = .returned (.bool (fits1 ls)) ∧ w = w' := by
  obtain ⟨ao, b, off, cap, rfl, ha, hc⟩ := h.ex
  clear h
  have HC := Lib.hid hc
  have HS := Lib.hid hsz
  have HA := Lib.hid ha
  clear hc hsz ha
  by_cases hbig : 2147483647 < ls.length
  · have HF : Hid (fits1 ls = false) := by show _ = _; rw [fits1, decide_eq_false (by omega)]; rfl
    go_enter Tryz.func4, Tryz.ntmps4
    go_wp2
    go_ret
    exact ⟨ret_bool HF.out.symm, rfl⟩
  · have HF : Hid (fits1 ls = ls.all fun s => decide (s.size ≤ 2147483647)) := by show _ = _; rw [fits1, decide_eq_true (by omega)]; rfl
    go_enter Tryz.func4, Tryz.ntmps4
    go_wp2
    go_loop [10] (fun i => ∃ k : Nat, k ≤ ls.length ∧ i = .int .i64 k ∧ Hid (fits1 ls = (ls.drop k).all fun s => decide (s.size ≤ 2147483647))) (fun i => ls.length - (intOf i).toNat)
    case atStart => exact ⟨0, Nat.zero_le _, rfl, by show _ = _; rw [HF.out]; rfl⟩
    case round =>
      obtain ⟨k, hk, rfl, hrel⟩ := hrel
      by_cases hlt : k < ls.length
      · have hrel' : Hid (fits1 ls = (decide (ls[k].size ≤ 2147483647) && (ls.drop (k + 1)).all fun s => decide (s.size ≤ 2147483647))) := by show _ = _; rw [hrel.out, all_drop _ ls k hlt]
        have hcell := strs_cell HC.out k hlt
        have hks := HS.out ls[k] (List.getElem_mem hlt)
        obtain ⟨ha1, _⟩ := HA.out (by omega)
        subst ha1
        clear hrel
        generalize ls[k] = x at *
        by_cases hx : 2147483647 < x.size
        · go_wp2
          go_ret
          exact ⟨ret_bool (by rw [hrel'.out, decide_eq_false (by omega)]; rfl), rfl⟩
        · go_wp2
          go_round
          case rel => exact ⟨k + 1, by omega, by go_num, by show _ = _; rw [hrel'.out, decide_eq_true (by omega), Bool.true_and]⟩
          case measure => simp [intOf]; omega
      · go_wp2
        go_ret
        exact ⟨ret_bool (by rw [hrel.out, all_dropped _ ls k hlt]), rfl⟩
set_option maxRecDepth 100000 in
set_option maxHeartbeats 800000 in
theorem zzFits4_any (sc ho pa : ByteArray) (w : World) (h1 : sc.size ≤ 9223372036854775807) (h2 : ho.size ≤ 9223372036854775807) (h3 : pa.size ≤ 9223372036854775807) :
    Calls Tryz.prog 6 #[.agg #[.string sc, .string ho, .string pa]] w fun e w' => e = .returned (.bool (fits4 sc ho pa)) ∧ Below w.heap.size w w' := by
  by_cases c1 : 2147483647 < sc.size
  · go_enter Tryz.func6, Tryz.ntmps6
    go_wp2
    go_ret
    exact ⟨ret_bool (by rw [fits4, decide_eq_false (by omega)]), (Below.refl _ _).alloc (Nat.le_refl _) _⟩
  · by_cases c2 : 2147483647 < ho.size
    · go_enter Tryz.func6, Tryz.ntmps6
      go_wp2
      go_ret
      exact ⟨ret_bool (by rw [fits4, decide_eq_false (by omega)]), (Below.refl _ _).alloc (Nat.le_refl _) _⟩
    · by_cases c3 : 2147483647 < pa.size
      · go_enter Tryz.func6, Tryz.ntmps6
        go_wp2
        go_ret
        exact ⟨ret_bool (by rw [fits4, decide_eq_false (by omega)]), (Below.refl _ _).alloc (Nat.le_refl _) _⟩
      · go_enter Tryz.func6, Tryz.ntmps6
        go_wp2
        go_ret
        exact ⟨ret_bool (by rw [fits4, decide_eq_true (by omega)]), (Below.refl _ _).alloc (Nat.le_refl _) _⟩
/-- A cookie's texts are no longer than an int can say. -/
def CkLen (c : PCookie) : Prop := c.name.size ≤ 9223372036854775807 ∧ c.value.size ≤ 9223372036854775807 ∧ c.domain.size ≤ 9223372036854775807 ∧ c.path.size ≤ 9223372036854775807
def StLen (s : PStep) : Prop := s.scheme.size ≤ 9223372036854775807 ∧ s.host.size ≤ 9223372036854775807 ∧ s.path.size ≤ 9223372036854775807 ∧ s.cookies.length ≤ 9223372036854775807 ∧ ∀ c ∈ s.cookies, CkLen c
def ckVal (c : PCookie) : Value := .agg #[.string c.name, .string c.value, .string c.domain, .string c.path, .int .i64 c.maxAge, .int .i64 c.expires, .bool c.secure]
set_option maxRecDepth 100000 in
set_option maxHeartbeats 800000 in
theorem zzFits6_any (c : PCookie) (w : World) (h : CkLen c) :
    Calls Tryz.prog 42 #[ckVal c] w fun e w' => e = .returned (.bool (fits6 c)) ∧ Below w.heap.size w w' := by
  obtain ⟨nm, va, dm, pa, ma, ex, se⟩ := c
  obtain ⟨h1, h2, h3, h4⟩ := h
  simp only [] at h1 h2 h3 h4
  show Calls Tryz.prog 42 #[.agg #[.string nm, .string va, .string dm, .string pa, .int .i64 ma, .int .i64 ex, .bool se]] w _
  by_cases c1 : 2147483647 < nm.size
  · go_enter Tryz.func42, Tryz.ntmps42
    go_wp2
    go_ret
    exact ⟨ret_bool (by rw [fits6, decide_eq_false (by simp only []; omega)]), (Below.refl _ _).alloc (Nat.le_refl _) _⟩
  · by_cases c2 : 2147483647 < va.size
    · go_enter Tryz.func42, Tryz.ntmps42
      go_wp2
      go_ret
      exact ⟨ret_bool (by rw [fits6, decide_eq_false (by simp only []; omega)]), (Below.refl _ _).alloc (Nat.le_refl _) _⟩
    · by_cases c3 : 2147483647 < dm.size
      · go_enter Tryz.func42, Tryz.ntmps42
        go_wp2
        go_ret
        exact ⟨ret_bool (by rw [fits6, decide_eq_false (by simp only []; omega)]), (Below.refl _ _).alloc (Nat.le_refl _) _⟩
      · by_cases c4 : 2147483647 < pa.size
        · go_enter Tryz.func42, Tryz.ntmps42
          go_wp2
          go_ret
          exact ⟨ret_bool (by rw [fits6, decide_eq_false (by simp only []; omega)]), (Below.refl _ _).alloc (Nat.le_refl _) _⟩
        · go_enter Tryz.func42, Tryz.ntmps42
          go_wp2
          go_ret
          exact ⟨ret_bool (by rw [fits6, decide_eq_true (by simp only []; omega)]), (Below.refl _ _).alloc (Nat.le_refl _) _⟩
set_option maxRecDepth 100000 in
set_option maxHeartbeats 1600000 in
theorem zzFits5_any (v : Value) (cs : List PCookie) (B : Nat) (w : World) (h : CookiesAt w B v cs) (hB : B ≤ w.heap.size) (hl : cs.length ≤ 9223372036854775807) (hsz : ∀ x ∈ cs, CkLen x) :
    Calls Tryz.prog 31 #[v] w fun e w' => e = .returned (.bool (fits5 cs)) ∧ Below w.heap.size w w' := by
  obtain ⟨ao, b, off, cap, rfl, ha, hc⟩ := h.ex
  clear h
  have HC := Lib.hid hc
  have HS := Lib.hid hsz
  have HA := Lib.hid ha
  clear hc hsz ha
  by_cases hbig : 2147483647 < cs.length
  · have HF : Hid (fits5 cs = false) := by show _ = _; rw [fits5, decide_eq_false (by omega)]; rfl
    go_enter Tryz.func31, Tryz.ntmps31
    go_wp2
    go_ret
    exact ⟨ret_bool HF.out.symm, Below.refl _ _⟩
  · have HF : Hid (fits5 cs = cs.all fits6) := by show _ = _; rw [fits5, decide_eq_true (by omega)]; rfl
    go_enter Tryz.func31, Tryz.ntmps31
    go_wp2
    go_loopw [10] (fun i wr => ∃ k : Nat, k ≤ cs.length ∧ i = .int .i64 k ∧ Below w.heap.size w wr ∧ Hid (fits5 cs = (cs.drop k).all fits6)) (fun i _ => cs.length - (intOf i).toNat)
    case atStart => exact ⟨0, Nat.zero_le _, rfl, Below.refl _ _, by show _ = _; rw [HF.out]; rfl⟩
    case round =>
      obtain ⟨k, hk, rfl, hb, hrel⟩ := hrel
      by_cases hlt : k < cs.length
      · have hrel' : Hid (fits5 cs = (fits6 cs[k] && (cs.drop (k + 1)).all fits6)) := by show _ = _; rw [hrel.out, all_drop _ cs k hlt]
        obtain ⟨ha1, hb2⟩ := HA.out (by omega)
        have hks := HS.out cs[k] (List.getElem_mem hlt)
        have hrow := (cookies_row HC.out k hlt).below hb (by omega)
        obtain ⟨q0, q1, q2, q3, q4, q5, q6⟩ := row7 hrow
        have hsz := hb.size
        subst ha1
        clear hrel hrow
        generalize cs[k] = x at *
        have HK := Lib.hid hks
        clear hks
        cases hx : fits6 x with
        | false =>
          have HX := Lib.hid hx
          clear hx
          go_wp2_with fail
          refine (zzFits6_any x _ HK.out).mono ?_
          rintro e w1 ⟨rfl, hb1⟩
          rw [HX.out]
          have hbb := (hb.alloc hsz _).trans (hb1.mono (by simp; omega))
          clear hb hb1
          go_wp2_with fail
          go_ret
          exact ⟨ret_bool (by rw [hrel'.out, HX.out]; rfl), hbb⟩
        | true =>
          have HX := Lib.hid hx
          clear hx
          go_wp2_with fail
          refine (zzFits6_any x _ HK.out).mono ?_
          rintro e w1 ⟨rfl, hb1⟩
          rw [HX.out]
          have hbb := (hb.alloc hsz _).trans (hb1.mono (by simp; omega))
          clear hb hb1
          go_wp2_with fail
          go_roundw
          case rel => exact ⟨k + 1, by omega, by go_num, hbb, by show _ = _; rw [hrel'.out, HX.out, Bool.true_and]⟩
          case measure => simp [intOf]; omega
      · go_wp2
        go_ret
        exact ⟨ret_bool (by rw [hrel.out, all_dropped _ cs k hlt]), hb⟩
set_option maxRecDepth 100000 in
set_option maxHeartbeats 800000 in
theorem zzFits3_any (p : PStep) (v : Value) (B : Nat) (w : World) (h : CookiesAt w B v p.cookies) (hB : B ≤ w.heap.size) (hl : StLen p) :
    Calls Tryz.prog 15 #[.agg #[.bool p.set, .int .i64 p.tm, .string p.scheme, .string p.host, .string p.path, v]] w fun e w' => e = .returned (.bool (fits3 p)) ∧ Below w.heap.size w w' := by
  obtain ⟨hl1, hl2, hl3, hl4, hl5⟩ := hl
  have HL := Lib.hid hl5
  obtain ⟨ao, b, off, cap, hv, _⟩ := h.ex
  have HV := Lib.hid h
  clear hl5 h
  subst hv
  go_enter Tryz.func15, Tryz.ntmps15
  go_wp2_with fail
  refine (zzFits4_any p.scheme p.host p.path _ hl1 hl2 hl3).mono ?_
  rintro e w1 ⟨rfl, hb1⟩
  have hbb := ((Below.refl w.heap.size w).alloc (Nat.le_refl _) _).trans (hb1.mono (by simp))
  have hcell : ∀ i u, (#[Value.bool p.set, .int .i64 p.tm, .string p.scheme, .string p.host, .string p.path, .slice ao p.cookies.length cap])[i]? = some u → w1.cell? ⟨w.heap.size, i, none⟩ = some u := by
    intro i u hu
    rw [hb1.cell (by simp), World.cell?_alloc_new]; exact hu
  have c5 := hcell 5 _ rfl
  clear hcell hb1
  cases hx : fits4 p.scheme p.host p.path with
  | false =>
    have HX := Lib.hid hx
    clear hx
    go_wp2_with fail
    go_ret
    exact ⟨ret_bool (by rw [fits3, HX.out]; rfl), hbb⟩
  | true =>
    have HX := Lib.hid hx
    clear hx
    go_wp2_with fail
    refine (zzFits5_any _ p.cookies B w1 (HV.out.below hbb hB) (Nat.le_trans hB hbb.size) hl4 HL.out).mono ?_
    rintro e w2 ⟨rfl, hb2⟩
    have hbb2 := hbb.trans (hb2.mono hbb.size)
    clear hbb hb2
    cases hy : fits5 p.cookies with
    | false =>
      have HY := Lib.hid hy
      clear hy
      go_wp2_with fail
      go_ret
      exact ⟨ret_bool (by rw [fits3, HX.out, HY.out]; rfl), hbb2⟩
    | true =>
      have HY := Lib.hid hy
      clear hy
      go_wp2_with fail
      go_ret
      exact ⟨ret_bool (by rw [fits3, HX.out, HY.out]; rfl), hbb2⟩
set_option maxRecDepth 100000 in
set_option maxHeartbeats 1600000 in
theorem zzFits2_any (v : Value) (ss : List PStep) (B : Nat) (w : World) (h : StepsAt w B v ss) (hB : B ≤ w.heap.size) (hl : ss.length ≤ 9223372036854775807) (hsz : ∀ x ∈ ss, StLen x) :
    Calls Tryz.prog 5 #[v] w fun e w' => e = .returned (.bool (fits2 ss)) ∧ Below w.heap.size w w' := by
  obtain ⟨cv, h, hcv⟩ := h.ex
  obtain ⟨ao, b, off, cap, rfl, ha, hc⟩ := h.ex
  clear h
  have HC := Lib.hid hc
  have HCV := Lib.hid hcv
  have HS := Lib.hid hsz
  have HA := Lib.hid ha
  clear hc hsz ha hcv
  by_cases hbig : 2147483647 < ss.length
  · have HF : Hid (fits2 ss = false) := by show _ = _; rw [fits2, decide_eq_false (by omega)]; rfl
    go_enter Tryz.func5, Tryz.ntmps5
    go_wp2
    go_ret
    exact ⟨ret_bool HF.out.symm, Below.refl _ _⟩
  · have HF : Hid (fits2 ss = ss.all fits3) := by show _ = _; rw [fits2, decide_eq_true (by omega)]; rfl
    go_enter Tryz.func5, Tryz.ntmps5
    go_wp2
    go_loopw [10] (fun i wr => ∃ k : Nat, k ≤ ss.length ∧ i = .int .i64 k ∧ Below w.heap.size w wr ∧ Hid (fits2 ss = (ss.drop k).all fits3)) (fun i _ => ss.length - (intOf i).toNat)
    case atStart => exact ⟨0, Nat.zero_le _, rfl, Below.refl _ _, by show _ = _; rw [HF.out]; rfl⟩
    case round =>
      obtain ⟨k, hk, rfl, hb, hrel⟩ := hrel
      by_cases hlt : k < ss.length
      · have hrel' : Hid (fits2 ss = (fits3 ss[k] && (ss.drop (k + 1)).all fits3)) := by show _ = _; rw [hrel.out, all_drop _ ss k hlt]
        obtain ⟨ha1, hb2⟩ := HA.out (by omega)
        have hks := HS.out ss[k] (List.getElem_mem hlt)
        have hrow := (steps_row HC.out k hlt).below hb (by omega)
        obtain ⟨q0, q1, q2, q3, q4, q5⟩ := row6 hrow
        have hck := (HCV.out k ss[k] (List.getElem?_eq_getElem hlt)).below hb hB
        have hsz := hb.size
        subst ha1
        clear hrel hrow
        generalize ss[k] = x at *
        generalize cv k = u at *
        obtain ⟨ao2, b3, off2, cap2, hu, _⟩ := hck.ex
        have HK := Lib.hid hks
        have HCK := Lib.hid hck
        clear hks hck
        subst hu
        cases hx : fits3 x with
        | false =>
          have HX := Lib.hid hx
          clear hx
          go_wp2_with fail
          refine (zzFits3_any x _ B _ (HCK.out.below ((Below.refl _ _).alloc (Nat.le_refl _) _) (Nat.le_trans hB hsz)) (by simp; omega) HK.out).mono ?_
          rintro e w1 ⟨rfl, hb1⟩
          rw [HX.out]
          have hbb := (hb.alloc hsz _).trans (hb1.mono (by simp; omega))
          clear hb hb1
          go_wp2_with fail
          go_ret
          exact ⟨ret_bool (by rw [hrel'.out, HX.out]; rfl), hbb⟩
        | true =>
          have HX := Lib.hid hx
          clear hx
          go_wp2_with fail
          refine (zzFits3_any x _ B _ (HCK.out.below ((Below.refl _ _).alloc (Nat.le_refl _) _) (Nat.le_trans hB hsz)) (by simp; omega) HK.out).mono ?_
          rintro e w1 ⟨rfl, hb1⟩
          rw [HX.out]
          have hbb := (hb.alloc hsz _).trans (hb1.mono (by simp; omega))
          clear hb hb1
          go_wp2_with fail
          go_roundw
          case rel => exact ⟨k + 1, by omega, by go_num, hbb, by show _ = _; rw [hrel'.out, HX.out, Bool.true_and]⟩
          case measure => simp [intOf]; omega
      · go_wp2
        go_ret
        exact ⟨ret_bool (by rw [hrel.out, all_dropped _ ss k hlt]), hb⟩
end Go.Proofs.YtcofblepdfjhjaaGreatDoor
